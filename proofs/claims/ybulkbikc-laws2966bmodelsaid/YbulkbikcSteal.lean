/-
  The local queue's steal and drain; zzs2966bb2i.
-/
import Derived.Test.YbulkbikcFill
import Derived.Deep.LoopGhost
namespace Go.Proofs.Ybulkbikc
open Go Go.RowKit Go.MuLone

/-- The array that steal fills: 256 cells of the call's own. -/
def DS (w : World) (d : Nat) : Prop := ∃ cur : Array Value, w.heap[d]? = some (.cells cur 61 (0, 0)) ∧ cur.size = 256

section
variable {w w' : World} {d : Nat}
theorem DS.lt (h : DS w d) : d < w.heap.size := by obtain ⟨cur, h, _⟩ := h; exact (Array.getElem?_eq_some_iff.1 h).1
theorem DS.kept {p : Nat → Prop} (h : DS w d) (hc : Chg w w' p) (hp : ¬ p d) : DS w' d := by
  obtain ⟨cur, h, hs⟩ := h
  exact ⟨cur, (hc.block d (Array.getElem?_eq_some_iff.1 h).1 hp).trans h, hs⟩
theorem DS.cell (h : DS w d) (j : Nat) (hj : j < 256) : ∃ v, w.cell? ⟨d, j, none⟩ = some v := by
  obtain ⟨cur, h, hs⟩ := h
  rw [cell_of_row w d j cur 61 (0, 0) h]
  exact ⟨_, Array.getElem?_eq_getElem (by omega)⟩
theorem DS.fz (h : DS w d) (j : Nat) : w.frozen? ⟨d, j, none⟩ = false := by
  obtain ⟨cur, h, hs⟩ := h
  simp [World.frozen?, h]
theorem DS.set (h : DS w d) (j : Nat) (v : Value) : DS (w.setCell ⟨d, j, none⟩ v) d := by
  obtain ⟨cur, h, hs⟩ := h
  exact ⟨_, heap_setCell_same w d j cur 61 v h, by simpa using hs⟩
end

theorem b2i18 (s : Bool) (w : World) : Calls Yba.prog 18 #[.bool s] w fun e w' => e = .returned (.int .i64 (b2i s)) ∧ w' = w := by
  cases s with
  | true =>
    go_enter Yba.func18, Yba.ntmps18
    go_wp2
    go_ret
    exact ⟨rfl, rfl⟩
  | false =>
    go_enter Yba.func18, Yba.ntmps18
    go_wp2
    go_ret
    exact ⟨rfl, rfl⟩

/-- steal without the slot, from an empty ring: the lock isn't taken -/
theorem steal_none {w : World} {b d : Nat} {s : Bool} {dr : Bool} (h : Q w b 0 s 0 dr) :
    Calls Yba.prog 16 #[.pointer (some ⟨b, 0, none⟩), .slice (some ⟨d, 0, none⟩) 256 256, .bool false] w fun e w' => e = .returned (.int .i64 0) ∧ w' = w := by
  go_enter_defers Yba.func16, Yba.ntmps16
  go_wp2_with (go_at_call 27; refine (ringLen h).mono ?_; rintro e w' ⟨rfl, rfl⟩)
  exact ⟨_, results_tmp rfl _ _ _, rfl, rfl⟩

/-- steal of the runs-next slot -/
theorem steal_next {w : World} {b d : Nat} {dr : Bool} (hbd : b ≠ d) (h : Q w b 0 true 0 dr) (hd : DS w d) :
    Calls Yba.prog 16 #[.pointer (some ⟨b, 0, none⟩), .slice (some ⟨d, 0, none⟩) 256 256, .bool true] w fun e w' => e = .returned (.int .i64 1) ∧ Q w' b 0 false 0 dr ∧ DS w' d ∧ Chg w w' (fun k => k = b ∨ k = d) := by
  go_enter_defers Yba.func16, Yba.ntmps16
  go_wp2_with fail
  refine (qLock h).mono ?_
  rintro e w1 ⟨rfl, h1, c1⟩
  have hd1 := hd.kept c1 (fun e => hbd e.symm)
  clear h hd
  obtain ⟨k, hn2, hf2, hn3, hf3, hn⟩ := h1.next
  simp only [nextOf, if_true] at hn2
  obtain ⟨v0, hv0⟩ := hd1.cell 0 (by omega)
  have hz0 := hd1.fz 0
  go_wp2_with (go_at_call 27; refine (ringLen h1).mono ?_; rintro e w' ⟨rfl, rfl⟩)
  have h2 := (h1.kept (Chg.setCell w' ⟨d, 0, none⟩ (.iface 73 (.pointer (some ⟨k, 0, none⟩)))) hbd).setNext false 0
  have hd2 := (hd1.set 0 (.iface 73 (.pointer (some ⟨k, 0, none⟩)))).kept (Chg.setCell _ ⟨b, 2, none⟩ .nilIface) (fun e => hbd e.symm)
  have c2 : Chg w ((w'.setCell ⟨d, 0, none⟩ (.iface 73 (.pointer (some ⟨k, 0, none⟩)))).setCell ⟨b, 2, none⟩ .nilIface) (fun k => k = b ∨ k = d) :=
    (((Chg.refl w _).trans c1 (fun _ _ h => .inl h)).trans (Chg.setCell _ _ _) (fun _ _ h => .inr h)).trans (Chg.setCell _ _ _) (fun _ _ h => .inl h)
  refine leaves_cons (f := 26) (args := #[.pointer (some ⟨b, 0, none⟩)]) (by simp) (by simp [go_sem]) ?_
  refine (qUnlock .returning h2).mono ?_
  rintro e u' w2 ⟨rfl, rfl, h3, c3⟩
  exact ⟨_, results_tmp rfl _ _ _, rfl, h3, hd2.kept c3 (fun e => hbd e.symm), c2.trans c3 (fun _ _ h => .inl h)⟩

/-- steal with the slot, nothing there -/
theorem steal_empty {w : World} {b d : Nat} {dr : Bool} (hbd : b ≠ d) (h : Q w b 0 false 0 dr) (hd : DS w d) :
    Calls Yba.prog 16 #[.pointer (some ⟨b, 0, none⟩), .slice (some ⟨d, 0, none⟩) 256 256, .bool true] w fun e w' => e = .returned (.int .i64 0) ∧ Q w' b 0 false 0 dr ∧ DS w' d ∧ Chg w w' (fun k => k = b ∨ k = d) := by
  go_enter_defers Yba.func16, Yba.ntmps16
  go_wp2_with fail
  refine (qLock h).mono ?_
  rintro e w1 ⟨rfl, h1, c1⟩
  have hd1 := hd.kept c1 (fun e => hbd e.symm)
  clear h hd
  obtain ⟨k, hn2, hf2, hn3, hf3, hn⟩ := h1.next
  simp only [nextOf] at hn2
  go_wp2_with (go_at_call 27; refine (ringLen h1).mono ?_; rintro e w' ⟨rfl, rfl⟩)
  refine wp_loop_rounds 1 ?_
  rw [rounds_succ]
  go_wp2
  refine leaves_cons (f := 26) (args := #[.pointer (some ⟨b, 0, none⟩)]) (by simp) (by simp [go_sem]) ?_
  refine (qUnlock .returning h1).mono ?_
  rintro e u' w2 ⟨rfl, rfl, h3, c3⟩
  exact ⟨_, results_tmp rfl _ _ _, rfl, h3, hd1.kept c3 (fun e => hbd e.symm), ((Chg.refl w _).trans c1 (fun _ _ h => .inl h)).trans c3 (fun _ _ h => .inl h)⟩

/-- steal from a ring that is not empty -/
theorem steal_ring {w : World} {b d n m : Nat} {s f dr : Bool} (hbd : b ≠ d) (h : Q w b 0 s n dr) (hd : DS w d) (hn : 0 < n) (hm : m = (n + 1) / 2) :
    Calls Yba.prog 16 #[.pointer (some ⟨b, 0, none⟩), .slice (some ⟨d, 0, none⟩) 256 256, .bool f] w fun e w' => e = .returned (.int .i64 m) ∧ Q w' b 0 s (n - m) dr ∧ DS w' d ∧ Chg w w' (fun k => k = b ∨ k = d) := by
  have hnb : n ≤ 256 := by obtain ⟨_, _, _, _, _, h, _⟩ := h; exact h
  have hnz : ((n : Int) == 0) = false := beq_eq_false_iff_ne.2 (by omega)
  have hmz' : (((n : Int) + 1) / 2 == 0) = false := beq_eq_false_iff_ne.2 (by omega)
  have HD : Hid (((n : Int) + 1) / 2 = (m : Int)) := by show _ = _; omega
  have hmn : m ≤ n := by omega
  have hm128 : m ≤ 128 := by omega
  clear hm
  cases f
  all_goals
    go_enter_defers Yba.func16, Yba.ntmps16
    go_wp2_with (first | (go_at_call 27; refine (ringLen h).mono ?_; rintro e w' ⟨rfl, hw⟩; have hw' := hw.symm; clear hw; subst hw'))
    refine (qLock h).mono ?_
    rintro e w1 ⟨rfl, h1, c1⟩
    have hd1 := hd.kept c1 (fun e => hbd e.symm)
    go_wp2_with (go_at_call 27; refine (ringLen h1).mono ?_; rintro e w' ⟨rfl, rfl⟩)
    have c1' : Chg w w' (fun k => k = b ∨ k = d) := (Chg.refl w _).trans c1 (fun _ _ h => .inl h)
    clear h hd c1 hnz
    go_loopg [49] m (fun g s49 wx => ∃ j : Nat, j ≤ m ∧ g = m - j ∧ s49 = .int .i64 j ∧ Q wx b 1 s (n - j) dr ∧ DS wx d ∧ Chg w wx (fun k => k = b ∨ k = d))
    case atStart => exact ⟨0, Nat.zero_le _, rfl, rfl, h1, hd1, c1'⟩
    case round =>
      clear h1 hd1 c1'
      obtain ⟨j, hj, rfl, rfl, hq, hds, hc⟩ := hrel
      by_cases hlt : j < m
      · obtain ⟨q, hq1⟩ : ∃ q, n - j = q + 1 := ⟨n - j - 1, by omega⟩
        rw [hq1] at hq
        have HQ : Hid (n - j = q + 1) := hq1
        clear hq1
        have jm : (j : Int) < ((n : Int) + 1) / 2 := by have := HD.out; omega
        go_wp2_with fail
        refine (popRing1 hq).mono ?_
        rintro e w2 ⟨jj, rfl, q2, c2⟩
        have hds2 := hds.kept c2 (fun e => hbd e.symm)
        obtain ⟨v, hv⟩ := hds2.cell j (by omega)
        have hf := hds2.fz j
        have q3 := q2.kept (Chg.setCell w2 ⟨d, j, none⟩ (.iface 73 (.pointer (some ⟨jj, 0, none⟩)))) hbd
        have hds3 := hds2.set j (.iface 73 (.pointer (some ⟨jj, 0, none⟩)))
        have c3 := (hc.trans c2 (fun _ _ h => .inl h)).trans (Chg.setCell w2 ⟨d, j, none⟩ (.iface 73 (.pointer (some ⟨jj, 0, none⟩)))) (fun _ _ h => .inr h)
        clear hq hds hc q2 c2 hds2
        have j256 : (j : Int) < 256 := by omega
        go_wp2
        go_roundg (m - (j + 1))
        case measure => omega
        case rel =>
          have e1 : n - (j + 1) = q := by have := HQ.out; omega
          refine ⟨j + 1, by omega, rfl, by go_num, ?_, hds3, c3⟩
          rw [e1]; exact q3
      · obtain rfl : j = m := by omega
        have jm : ¬ (j : Int) < ((n : Int) + 1) / 2 := by have := HD.out; omega
        go_wp2
        refine leaves_cons (f := 26) (args := #[.pointer (some ⟨b, 0, none⟩)]) (by simp) (by simp [go_sem]) ?_
        refine (qUnlock .returning hq).mono ?_
        rintro e u' w2 ⟨rfl, rfl, h3, c3⟩
        refine ⟨_, results_tmp rfl _ _ _, ?_, h3, hds.kept c3 (fun e => hbd e.symm), hc.trans c3 (fun _ _ h => .inl h)⟩
        exact ret_int HD.out
end Go.Proofs.Ybulkbikc
