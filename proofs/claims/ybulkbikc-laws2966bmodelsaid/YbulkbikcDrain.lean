/-
  The local queue's drain.
-/
import Derived.Test.YbulkbikcSteal
namespace Go.Proofs.Ybulkbikc
open Go Go.RowKit Go.MuLone

theorem info61 : (Yba.prog.info? 61).map (fun i => (i.zero, i.size, i.bytes)) = some (some .nilIface, 1, 16) := by kernel_rfl

theorem Q.setDrained {w : World} {b : Nat} {l : Int} {s : Bool} {n : Nat} {dr : Bool} (h : Q w b l s n dr) : Q (w.setCell ⟨b, 261, none⟩ (.bool true)) b l s n true := by
  obtain ⟨nx, rg, hd, h, r⟩ := h
  exact ⟨nx, rg, hd, h.setDrained true, r⟩

/-- At the head of drain's loop. -/
def DRel (w : World) (b T g : Nat) (s1 s5 : Value) (wx : World) : Prop :=
  ∃ (k : Nat) (xs : List Value), RowAt wx w.heap.size 61 1 s1 k xs ∧ Chg w wx (fun i => i = b) ∧
    ((s5 = .nilIface ∧ k = T ∧ g = 0 ∧ Q wx b 1 false 0 true) ∨ ∃ j r : Nat, s5 = .iface 73 (.pointer (some ⟨j, 0, none⟩)) ∧ k + 1 + r = T ∧ g = r + 1 ∧ Q wx b 1 false r true)

/-- What an append on the call's own slice keeps. -/
theorem app_keeps {w wx wy : World} {b : Nat} {v : Value} {k : Nat} {xs : List Value} {r : Nat} {s dr : Bool} {l : Int} {o : Obj} (hrow : RowAt wx w.heap.size 61 1 v k xs) (hc : Chg w wx (fun i => i = b)) (hq : Q wx b l s r dr) (hb : b < w.heap.size)
    (hg : (wx.alloc o).grownBy wy (liveB v)) : Chg w wy (fun i => i = b) ∧ Q wy b l s r dr := by
  have hne : ∀ i, i < w.heap.size → ¬ liveB v = some i := fun i hi h => by have := (hrow.lt i h).1; omega
  exact ⟨(hc.trans (Chg.alloc wx o) (fun _ _ h => h.elim)).trans (Chg.grown hg) (fun i hi h => absurd h (hne i hi)), (hq.kept (Chg.alloc wx o) id).kept (Chg.grown hg) (hne b hb)⟩

theorem one_new (w : World) (x : Value) (t : TypeId) : ∀ (j : Nat) (u : Value), [x][j]? = some u → (w.alloc (.cells #[x] t)).cell? ((⟨w.heap.size, 0, none⟩ : Addr).add j) = some u := by
  intro j u hj
  match j, hj with
  | 0, hj => simp at hj; subst hj; simp [Addr.add]

set_option maxHeartbeats 400000 in
theorem drain17 {w : World} {b n : Nat} {s dr : Bool} (h : Q w b 0 s n dr) :
    Calls Yba.prog 17 #[.pointer (some ⟨b, 0, none⟩), .slice none 0 0] w fun e w' => ∃ (a : Option Addr) (c : Nat), e = .returned (.slice a (n + if s then 1 else 0) c) ∧ Q w' b 0 false 0 true ∧ Chg w w' (fun k => k = b) := by
  have hb := h.lt
  have hnb : n ≤ 256 := by obtain ⟨_, _, _, _, _, h, _⟩ := h; exact h
  obtain ⟨i0, hi, hz0, hz1, hz2⟩ := info_parts info61
  obtain ⟨T, hT⟩ : ∃ T, T = n + if s then 1 else 0 := ⟨_, rfl⟩
  have hT' : T ≤ 257 := by rw [hT]; split <;> omega
  rw [← hT]
  have HT : Hid (T = n + if s then 1 else 0) := hT
  clear hT
  go_enter_defers Yba.func17, Yba.ntmps17
  go_wp2_with fail
  refine (qLock h).mono ?_
  rintro e w1 ⟨rfl, h1, c1⟩
  clear h
  obtain ⟨k, hn2, hf2, hn3, hf3, _⟩ := h1.next
  have h2 := h1.setDrained
  have c2 : Chg w (w1.setCell ⟨b, 261, none⟩ (.bool true)) (fun k => k = b) := c1.trans (Chg.setCell _ _ _) (fun _ _ h => h)
  have sz : w.heap.size ≤ w1.heap.size := c1.size
  cases s with
  | false =>
    have HT' : T = n := HT.out
    have HT2 : Hid (T = n) := HT'
    clear HT HT'
    simp only [nextOf] at hn2
    go_wp2_with fail
    have R : RowAt (w1.setCell ⟨b, 261, none⟩ (.bool true)) w.heap.size 61 1 (.slice none 0 0) 0 [] := RowAt.nil _ _ _ _
    clear h1 c1 hn2 hf2 hn3 hf3
    cases n with
    | zero =>
      refine (popRing0 h2).mono ?_
      rintro e w3 ⟨rfl, hw⟩
      have hw' := hw.symm; clear hw; subst hw'
      have D : DRel w b T 0 (.slice none 0 0) .nilIface (w1.setCell ⟨b, 261, none⟩ (.bool true)) := ⟨0, [], R, c2, .inl ⟨rfl, HT2.out.symm, rfl, h2⟩⟩
      clear h2 c2 R
      go_wp2_with fail
      go_loopg [1, 5] 0 (fun g s1 s5 wx => DRel w b T g s1 s5 wx)
      case atStart => exact D
      case round =>
        clear D
        obtain ⟨k, xs, R, C, hR⟩ := hrel
        obtain ⟨va, vc, rfl, _, _⟩ := R.form
        have swr : w.heap.size ≤ wr.heap.size := C.size
        rcases hR with ⟨rfl, hkT, rfl, hq⟩ | ⟨j, r, rfl, hkr, rfl, hq⟩
        · subst hkT
          go_wp2
          refine leaves_cons (f := 26) (args := #[.pointer (some ⟨b, 0, none⟩)]) (by simp) (by simp [go_sem]) ?_
          refine (qUnlock .returning hq).mono ?_
          rintro e u' w2 ⟨rfl, rfl, h3, c3⟩
          exact ⟨_, results_tmp rfl _ _ _, va, vc, rfl, h3, C.trans c3 (fun _ _ h => h)⟩
        · have HK : Hid (k + 1 + r = T) := hkr
          have hk257 : k + 1 ≤ 257 := by omega
          clear hkr
          go_wp2_with (at_builtin; refine wpList_append_row _ rfl (.tmp 37) (.tmp 39) 68 rfl w.heap.size 61 i0 .nilIface 1 16 Yba.underlying68 hi hz0 hz1 hz2 rfl (by decide) _ _ _ rfl (R.alloc _) ⟨wr.heap.size, 0, none⟩ 1 1 [.iface 73 (.pointer (some ⟨j, 0, none⟩))] rfl rfl ?c1 ?c2 ?c3 ?c4 ?c5 ?c6 ?_)
          case c1 => exact one_new wr (.iface 73 (.pointer (some ⟨j, 0, none⟩))) 61
          case c2 => intro u hu; simp at hu; subst hu; rfl
          case c3 => decide
          case c4 => unfold maxLen; omega
          case c5 => omega
          case c6 => simp; omega
          intro v' w3 hrow hg hl
          obtain ⟨vb, vd, rfl, _, _⟩ := hrow.form
          have K := app_keeps R C hq hb hg
          obtain ⟨K1, K2⟩ := K
          clear hg hl R C hq
          go_wp2_with fail
          cases r with
          | zero =>
            refine (popRing0 K2).mono ?_
            rintro e w4 ⟨rfl, hw⟩
            have hw' := hw.symm; clear hw; subst hw'
            have D : DRel w b T 0 (.slice vb (k + 1) vd) .nilIface w3 := ⟨k + 1, _, hrow, K1, .inl ⟨rfl, HK.out, rfl, K2⟩⟩
            clear hrow K1 K2
            go_wp2
            go_roundg 0
            case measure => omega
            case rel => exact D
          | succ r =>
            refine (popRing1 K2).mono ?_
            rintro e w4 ⟨jj, rfl, q4, c4⟩
            have hne : ∀ i, liveB (.slice vb (k + 1) vd) = some i → ¬ i = b := fun i h => by have := (hrow.lt i h).1; omega
            have D : DRel w b T (r + 1) (.slice vb (k + 1) vd) (.iface 73 (.pointer (some ⟨jj, 0, none⟩))) w4 := ⟨k + 1, _, c4.row hrow hne, K1.trans c4 (fun _ _ h => h), .inr ⟨jj, r, rfl, by have := HK.out; omega, rfl, q4⟩⟩
            clear hrow K1 K2 q4 c4 hne
            go_wp2
            go_roundg (r + 1)
            case measure => omega
            case rel => exact D
    | succ n =>
      refine (popRing1 h2).mono ?_
      rintro e w3 ⟨j, rfl, q3, c3⟩
      have D : DRel w b T (n + 1) (.slice none 0 0) (.iface 73 (.pointer (some ⟨j, 0, none⟩))) w3 := ⟨0, [], RowAt.nil _ _ _ _, c2.trans c3 (fun _ _ h => h), .inr ⟨j, n, rfl, by have := HT2.out; omega, rfl, q3⟩⟩
      clear h2 c2 R q3 c3
      go_wp2_with fail
      go_loopg [1, 5] (n + 1) (fun g s1 s5 wx => DRel w b T g s1 s5 wx)
      case atStart => exact D
      case round =>
        clear D
        obtain ⟨k, xs, R, C, hR⟩ := hrel
        obtain ⟨va, vc, rfl, _, _⟩ := R.form
        have swr : w.heap.size ≤ wr.heap.size := C.size
        rcases hR with ⟨rfl, hkT, rfl, hq⟩ | ⟨j, r, rfl, hkr, rfl, hq⟩
        · subst hkT
          go_wp2
          refine leaves_cons (f := 26) (args := #[.pointer (some ⟨b, 0, none⟩)]) (by simp) (by simp [go_sem]) ?_
          refine (qUnlock .returning hq).mono ?_
          rintro e u' w2 ⟨rfl, rfl, h3, c3⟩
          exact ⟨_, results_tmp rfl _ _ _, va, vc, rfl, h3, C.trans c3 (fun _ _ h => h)⟩
        · have HK : Hid (k + 1 + r = T) := hkr
          have hk257 : k + 1 ≤ 257 := by omega
          clear hkr
          go_wp2_with (at_builtin; refine wpList_append_row _ rfl (.tmp 37) (.tmp 39) 68 rfl w.heap.size 61 i0 .nilIface 1 16 Yba.underlying68 hi hz0 hz1 hz2 rfl (by decide) _ _ _ rfl (R.alloc _) ⟨wr.heap.size, 0, none⟩ 1 1 [.iface 73 (.pointer (some ⟨j, 0, none⟩))] rfl rfl ?c1 ?c2 ?c3 ?c4 ?c5 ?c6 ?_)
          case c1 => exact one_new wr (.iface 73 (.pointer (some ⟨j, 0, none⟩))) 61
          case c2 => intro u hu; simp at hu; subst hu; rfl
          case c3 => decide
          case c4 => unfold maxLen; omega
          case c5 => omega
          case c6 => simp; omega
          intro v' w3 hrow hg hl
          obtain ⟨vb, vd, rfl, _, _⟩ := hrow.form
          have K := app_keeps R C hq hb hg
          obtain ⟨K1, K2⟩ := K
          clear hg hl R C hq
          go_wp2_with fail
          cases r with
          | zero =>
            refine (popRing0 K2).mono ?_
            rintro e w4 ⟨rfl, hw⟩
            have hw' := hw.symm; clear hw; subst hw'
            have D : DRel w b T 0 (.slice vb (k + 1) vd) .nilIface w3 := ⟨k + 1, _, hrow, K1, .inl ⟨rfl, HK.out, rfl, K2⟩⟩
            clear hrow K1 K2
            go_wp2
            go_roundg 0
            case measure => omega
            case rel => exact D
          | succ r =>
            refine (popRing1 K2).mono ?_
            rintro e w4 ⟨jj, rfl, q4, c4⟩
            have hne : ∀ i, liveB (.slice vb (k + 1) vd) = some i → ¬ i = b := fun i h => by have := (hrow.lt i h).1; omega
            have D : DRel w b T (r + 1) (.slice vb (k + 1) vd) (.iface 73 (.pointer (some ⟨jj, 0, none⟩))) w4 := ⟨k + 1, _, c4.row hrow hne, K1.trans c4 (fun _ _ h => h), .inr ⟨jj, r, rfl, by have := HK.out; omega, rfl, q4⟩⟩
            clear hrow K1 K2 q4 c4 hne
            go_wp2
            go_roundg (r + 1)
            case measure => omega
            case rel => exact D
  | true =>
    have HT' : T = n + 1 := HT.out
    have HT2 : Hid (T = n + 1) := HT'
    clear HT HT'
    simp only [nextOf, if_true] at hn2
    go_wp2_with (at_builtin; refine wpList_append_row _ rfl _ _ 68 rfl w.heap.size 61 i0 .nilIface 1 16 Yba.underlying68 hi hz0 hz1 hz2 rfl (by decide) _ _ _ rfl (RowAt.nil _ _ _ _) ⟨w1.heap.size, 0, none⟩ 1 1 [.iface 73 (.pointer (some ⟨k, 0, none⟩))] rfl rfl ?c1 ?c2 ?c3 ?c4 ?c5 ?c6 ?_)
    case c1 => simpa using one_new (w1.setCell ⟨b, 261, none⟩ (.bool true)) (.iface 73 (.pointer (some ⟨k, 0, none⟩))) 61
    case c2 => intro u hu; simp at hu; subst hu; rfl
    case c3 => decide
    case c4 => unfold maxLen; omega
    case c5 => omega
    case c6 => simp; omega
    intro v' w3 hrow hg hl
    obtain ⟨va, vc, rfl, _, _⟩ := hrow.form
    have K := app_keeps (RowAt.nil (w1.setCell ⟨b, 261, none⟩ (.bool true)) w.heap.size 61 1) c2 h2 hb hg
    have hlv : liveB (.slice va 1 vc) ≠ some b := fun h => by have := (hrow.lt b h).1; omega
    have R := hrow.setCell_other (a := ⟨b, 2, none⟩) (u := .nilIface) hlv
    have h3 := K.2.setNext false 0
    simp only [nextOf] at h3
    have c3 := K.1.trans (Chg.setCell w3 ⟨b, 2, none⟩ .nilIface) (fun _ _ h => h)
    obtain ⟨k', hn2', hf2', _, _, _⟩ := K.2.next
    simp only [nextOf, if_true] at hn2'
    clear hg hl K h2 c2 h1 c1 hn2 hf2 hn3 hf3 hrow hlv
    go_wp2_with fail
    cases n with
    | zero =>
      refine (popRing0 h3).mono ?_
      rintro e w4 ⟨rfl, hw⟩
      have hw' := hw.symm; clear hw; subst hw'
      have D : DRel w b T 0 (.slice va 1 vc) .nilIface (w3.setCell ⟨b, 2, none⟩ .nilIface) := ⟨1, _, R, c3, .inl ⟨rfl, HT2.out.symm, rfl, h3⟩⟩
      clear h3 c3 R
      go_wp2_with fail
      go_loopg [1, 5] 0 (fun g s1 s5 wx => DRel w b T g s1 s5 wx)
      case atStart => exact D
      case round =>
        clear D
        obtain ⟨k, xs, R, C, hR⟩ := hrel
        obtain ⟨va, vc, rfl, _, _⟩ := R.form
        have swr : w.heap.size ≤ wr.heap.size := C.size
        rcases hR with ⟨rfl, hkT, rfl, hq⟩ | ⟨j, r, rfl, hkr, rfl, hq⟩
        · subst hkT
          go_wp2
          refine leaves_cons (f := 26) (args := #[.pointer (some ⟨b, 0, none⟩)]) (by simp) (by simp [go_sem]) ?_
          refine (qUnlock .returning hq).mono ?_
          rintro e u' w2 ⟨rfl, rfl, h3, c3⟩
          exact ⟨_, results_tmp rfl _ _ _, va, vc, rfl, h3, C.trans c3 (fun _ _ h => h)⟩
        · have HK : Hid (k + 1 + r = T) := hkr
          have hk257 : k + 1 ≤ 257 := by omega
          clear hkr
          go_wp2_with (at_builtin; refine wpList_append_row _ rfl (.tmp 37) (.tmp 39) 68 rfl w.heap.size 61 i0 .nilIface 1 16 Yba.underlying68 hi hz0 hz1 hz2 rfl (by decide) _ _ _ rfl (R.alloc _) ⟨wr.heap.size, 0, none⟩ 1 1 [.iface 73 (.pointer (some ⟨j, 0, none⟩))] rfl rfl ?c1 ?c2 ?c3 ?c4 ?c5 ?c6 ?_)
          case c1 => exact one_new wr (.iface 73 (.pointer (some ⟨j, 0, none⟩))) 61
          case c2 => intro u hu; simp at hu; subst hu; rfl
          case c3 => decide
          case c4 => unfold maxLen; omega
          case c5 => omega
          case c6 => simp; omega
          intro v' w3 hrow hg hl
          obtain ⟨vb, vd, rfl, _, _⟩ := hrow.form
          have K := app_keeps R C hq hb hg
          obtain ⟨K1, K2⟩ := K
          clear hg hl R C hq
          go_wp2_with fail
          cases r with
          | zero =>
            refine (popRing0 K2).mono ?_
            rintro e w4 ⟨rfl, hw⟩
            have hw' := hw.symm; clear hw; subst hw'
            have D : DRel w b T 0 (.slice vb (k + 1) vd) .nilIface w3 := ⟨k + 1, _, hrow, K1, .inl ⟨rfl, HK.out, rfl, K2⟩⟩
            clear hrow K1 K2
            go_wp2
            go_roundg 0
            case measure => omega
            case rel => exact D
          | succ r =>
            refine (popRing1 K2).mono ?_
            rintro e w4 ⟨jj, rfl, q4, c4⟩
            have hne : ∀ i, liveB (.slice vb (k + 1) vd) = some i → ¬ i = b := fun i h => by have := (hrow.lt i h).1; omega
            have D : DRel w b T (r + 1) (.slice vb (k + 1) vd) (.iface 73 (.pointer (some ⟨jj, 0, none⟩))) w4 := ⟨k + 1, _, c4.row hrow hne, K1.trans c4 (fun _ _ h => h), .inr ⟨jj, r, rfl, by have := HK.out; omega, rfl, q4⟩⟩
            clear hrow K1 K2 q4 c4 hne
            go_wp2
            go_roundg (r + 1)
            case measure => omega
            case rel => exact D
    | succ n =>
      refine (popRing1 h3).mono ?_
      rintro e w4 ⟨j, rfl, q4, c4⟩
      have hne : ∀ i, liveB (.slice va 1 vc) = some i → ¬ i = b := fun i h => by have := (R.lt i h).1; omega
      have D : DRel w b T (n + 1) (.slice va 1 vc) (.iface 73 (.pointer (some ⟨j, 0, none⟩))) w4 := ⟨1, _, c4.row R hne, c3.trans c4 (fun _ _ h => h), .inr ⟨j, n, rfl, by have := HT2.out; omega, rfl, q4⟩⟩
      clear h3 c3 R q4 c4 hne
      go_wp2_with fail
      go_loopg [1, 5] (n + 1) (fun g s1 s5 wx => DRel w b T g s1 s5 wx)
      case atStart => exact D
      case round =>
        clear D
        obtain ⟨k, xs, R, C, hR⟩ := hrel
        obtain ⟨va, vc, rfl, _, _⟩ := R.form
        have swr : w.heap.size ≤ wr.heap.size := C.size
        rcases hR with ⟨rfl, hkT, rfl, hq⟩ | ⟨j, r, rfl, hkr, rfl, hq⟩
        · subst hkT
          go_wp2
          refine leaves_cons (f := 26) (args := #[.pointer (some ⟨b, 0, none⟩)]) (by simp) (by simp [go_sem]) ?_
          refine (qUnlock .returning hq).mono ?_
          rintro e u' w2 ⟨rfl, rfl, h3, c3⟩
          exact ⟨_, results_tmp rfl _ _ _, va, vc, rfl, h3, C.trans c3 (fun _ _ h => h)⟩
        · have HK : Hid (k + 1 + r = T) := hkr
          have hk257 : k + 1 ≤ 257 := by omega
          clear hkr
          go_wp2_with (at_builtin; refine wpList_append_row _ rfl (.tmp 37) (.tmp 39) 68 rfl w.heap.size 61 i0 .nilIface 1 16 Yba.underlying68 hi hz0 hz1 hz2 rfl (by decide) _ _ _ rfl (R.alloc _) ⟨wr.heap.size, 0, none⟩ 1 1 [.iface 73 (.pointer (some ⟨j, 0, none⟩))] rfl rfl ?c1 ?c2 ?c3 ?c4 ?c5 ?c6 ?_)
          case c1 => exact one_new wr (.iface 73 (.pointer (some ⟨j, 0, none⟩))) 61
          case c2 => intro u hu; simp at hu; subst hu; rfl
          case c3 => decide
          case c4 => unfold maxLen; omega
          case c5 => omega
          case c6 => simp; omega
          intro v' w3 hrow hg hl
          obtain ⟨vb, vd, rfl, _, _⟩ := hrow.form
          have K := app_keeps R C hq hb hg
          obtain ⟨K1, K2⟩ := K
          clear hg hl R C hq
          go_wp2_with fail
          cases r with
          | zero =>
            refine (popRing0 K2).mono ?_
            rintro e w4 ⟨rfl, hw⟩
            have hw' := hw.symm; clear hw; subst hw'
            have D : DRel w b T 0 (.slice vb (k + 1) vd) .nilIface w3 := ⟨k + 1, _, hrow, K1, .inl ⟨rfl, HK.out, rfl, K2⟩⟩
            clear hrow K1 K2
            go_wp2
            go_roundg 0
            case measure => omega
            case rel => exact D
          | succ r =>
            refine (popRing1 K2).mono ?_
            rintro e w4 ⟨jj, rfl, q4, c4⟩
            have hne : ∀ i, liveB (.slice vb (k + 1) vd) = some i → ¬ i = b := fun i h => by have := (hrow.lt i h).1; omega
            have D : DRel w b T (r + 1) (.slice vb (k + 1) vd) (.iface 73 (.pointer (some ⟨jj, 0, none⟩))) w4 := ⟨k + 1, _, c4.row hrow hne, K1.trans c4 (fun _ _ h => h), .inr ⟨jj, r, rfl, by have := HK.out; omega, rfl, q4⟩⟩
            clear hrow K1 K2 q4 c4 hne
            go_wp2
            go_roundg (r + 1)
            case measure => omega
            case rel => exact D
end Go.Proofs.Ybulkbikc
