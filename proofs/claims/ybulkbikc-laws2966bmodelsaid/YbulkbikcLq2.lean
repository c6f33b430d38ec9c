/-
  The local queue's locked methods: len, putNext, pop.
-/
import Derived.Test.YbulkbikcLq
namespace Go.Proofs.Ybulkbikc
open Go Go.RowKit Go.MuLone

def b2i (s : Bool) : Int := if s then 1 else 0

/-- what the runs-next slot holds -/
def nextOf (s : Bool) (k : Nat) : Value := if s then .iface 73 (.pointer (some ⟨k, 0, none⟩)) else .nilIface

theorem Q.next {w : World} {b : Nat} {l : Int} {s : Bool} {n : Nat} {dr : Bool} (h : Q w b l s n dr) : ∃ k, w.cell? ⟨b, 2, none⟩ = some (nextOf s k) ∧ w.frozen? ⟨b, 2, none⟩ = false ∧ w.cell? ⟨b, 261, none⟩ = some (.bool dr) ∧ w.frozen? ⟨b, 261, none⟩ = false ∧ n ≤ 256 := by
  obtain ⟨nx, rg, hd, h, hhd, hn, h1, h2, h3⟩ := h
  cases s with
  | true => obtain ⟨k, rfl⟩ := h1 rfl; exact ⟨k, h.next, h.fz 2, h.drained, h.fz 261, hn⟩
  | false => obtain rfl := h2 rfl; exact ⟨0, h.next, h.fz 2, h.drained, h.fz 261, hn⟩

theorem Q.setNext {w : World} {b : Nat} {l : Int} {s : Bool} {n : Nat} {dr : Bool} (h : Q w b l s n dr) (s' : Bool) (k : Nat) : Q (w.setCell ⟨b, 2, none⟩ (nextOf s' k)) b l s' n dr := by
  obtain ⟨nx, rg, hd, h, hhd, hn, h1, h2, h3⟩ := h
  refine ⟨_, rg, hd, h.setNext _, hhd, hn, ?_, ?_, h3⟩
  · rintro rfl; exact ⟨k, rfl⟩
  · rintro rfl; rfl

theorem qlen13 {w : World} {b : Nat} {s : Bool} {n : Nat} {dr : Bool} (h : Q w b 0 s n dr) :
    Calls Yba.prog 13 #[.pointer (some ⟨b, 0, none⟩)] w fun e w' => e = .returned (.int .i64 (n + b2i s)) ∧ Q w' b 0 s n dr ∧ Chg w w' (fun k => k = b) := by
  go_enter_defers Yba.func13, Yba.ntmps13
  go_wp2_with fail
  refine (qLock h).mono ?_
  rintro e w1 ⟨rfl, h1, c1⟩
  clear h
  obtain ⟨k, hn2, _, _, _, hn⟩ := h1.next
  cases s with
  | true =>
    simp only [nextOf, if_true] at hn2
    go_wp2_with (go_at_call 27; refine (ringLen h1).mono ?_; rintro e w' ⟨rfl, rfl⟩)
    refine leaves_cons (f := 26) (args := #[.pointer (some ⟨b, 0, none⟩)]) (by simp) (by simp [go_sem]) ?_
    refine (qUnlock .returning h1).mono ?_
    rintro e u' w2 ⟨rfl, rfl, h2, c2⟩
    exact ⟨_, results_tmp rfl _ _ _, rfl, h2, c1.trans c2 (fun _ _ h => h)⟩
  | false =>
    simp only [nextOf] at hn2
    go_wp2_with (go_at_call 27; refine (ringLen h1).mono ?_; rintro e w' ⟨rfl, rfl⟩)
    refine leaves_cons (f := 26) (args := #[.pointer (some ⟨b, 0, none⟩)]) (by simp) (by simp [go_sem]) ?_
    refine (qUnlock .returning h1).mono ?_
    rintro e u' w2 ⟨rfl, rfl, h2, c2⟩
    refine ⟨_, results_tmp rfl _ _ _, ?_, h2, c1.trans c2 (fun _ _ h => h)⟩
    exact ret_int (by simp [b2i])

/-- putNext on a drained queue -/
theorem putNext_no {w : World} {b : Nat} {s : Bool} {n : Nat} (h : Q w b 0 s n true) (j : Value) :
    Calls Yba.prog 14 #[.pointer (some ⟨b, 0, none⟩), j] w fun e w' => e = .returned (.tuple #[.nilIface, .bool false]) ∧ Q w' b 0 s n true ∧ Chg w w' (fun k => k = b) := by
  go_enter_defers Yba.func14, Yba.ntmps14
  go_wp2_with fail
  refine (qLock h).mono ?_
  rintro e w1 ⟨rfl, h1, c1⟩
  clear h
  obtain ⟨k, hn2, hf2, hn3, hf3, hn⟩ := h1.next
  go_wp2_with fail
  refine leaves_cons (f := 26) (args := #[.pointer (some ⟨b, 0, none⟩)]) (by simp) (by simp [go_sem]) ?_
  refine (qUnlock .returning h1).mono ?_
  rintro e u' w2 ⟨rfl, rfl, h2, c2⟩
  exact ⟨_, results_tmp2 rfl _ _ _, rfl, h2, c1.trans c2 (fun _ _ h => h)⟩

/-- how many lie in the ring behind a putNext -/
def ringAfter (s : Bool) (n : Nat) : Nat := if s = true ∧ n < 256 then n + 1 else n

theorem putNext_yes {w : World} {b : Nat} {s : Bool} {n : Nat} (h : Q w b 0 s n false) (j : Nat) :
    Calls Yba.prog 14 #[.pointer (some ⟨b, 0, none⟩), .iface 73 (.pointer (some ⟨j, 0, none⟩))] w fun e w' => ∃ v, e = .returned (.tuple #[v, .bool true]) ∧ Q w' b 0 true (ringAfter s n) false ∧ Chg w w' (fun k => k = b) := by
  go_enter_defers Yba.func14, Yba.ntmps14
  go_wp2_with fail
  refine (qLock h).mono ?_
  rintro e w1 ⟨rfl, h1, c1⟩
  clear h
  obtain ⟨k, hn2, hf2, hn3, hf3, hn⟩ := h1.next
  have hs := h1.setNext true j
  simp only [nextOf, if_true] at hs
  have cs : Chg w (w1.setCell ⟨b, 2, none⟩ (.iface 73 (.pointer (some ⟨j, 0, none⟩)))) (fun k => k = b) := c1.trans (Chg.setCell _ _ _) (fun _ _ h => h)
  cases s with
  | false =>
    simp only [nextOf] at hn2
    go_wp2_with fail
    refine leaves_cons (f := 26) (args := #[.pointer (some ⟨b, 0, none⟩)]) (by simp) (by simp [go_sem]) ?_
    refine (qUnlock .returning hs).mono ?_
    rintro e u' w2 ⟨rfl, rfl, h2, c2⟩
    exact ⟨_, results_tmp2 rfl _ _ _, _, rfl, h2, cs.trans c2 (fun _ _ h => h)⟩
  | true =>
    simp only [nextOf, if_true] at hn2
    by_cases hlt : n < 256
    · have hne : ((n : Int) == 256) = false := beq_eq_false_iff_ne.2 (by omega)
      go_wp2_with (go_at_call 27; refine (ringLen hs).mono ?_; rintro e w' ⟨rfl, rfl⟩)
      refine (pushLocked hs hlt ⟨k, rfl⟩).mono ?_
      rintro e w3 ⟨rfl, h3, c3⟩
      clear hs
      go_wp2_with fail
      refine leaves_cons (f := 26) (args := #[.pointer (some ⟨b, 0, none⟩)]) (by simp) (by simp [go_sem]) ?_
      refine (qUnlock .returning h3).mono ?_
      rintro e u' w2 ⟨rfl, rfl, h2, c2⟩
      refine ⟨_, results_tmp2 rfl _ _ _, _, rfl, ?_, (cs.trans c3 (fun _ _ h => h)).trans c2 (fun _ _ h => h)⟩
      rw [ringAfter, if_pos ⟨rfl, hlt⟩]
      exact h2
    · obtain rfl : n = 256 := by omega
      go_wp2_with (go_at_call 27; refine (ringLen hs).mono ?_; rintro e w' ⟨rfl, rfl⟩)
      refine leaves_cons (f := 26) (args := #[.pointer (some ⟨b, 0, none⟩)]) (by simp) (by simp [go_sem]) ?_
      refine (qUnlock .returning hs).mono ?_
      rintro e u' w2 ⟨rfl, rfl, h2, c2⟩
      exact ⟨_, results_tmp2 rfl _ _ _, _, rfl, h2, cs.trans c2 (fun _ _ h => h)⟩

/-- pop: the runs-next slot is set -/
theorem pop_next {w : World} {b : Nat} {n : Nat} {dr : Bool} (h : Q w b 0 true n dr) :
    Calls Yba.prog 15 #[.pointer (some ⟨b, 0, none⟩)] w fun e w' => ∃ j : Nat, e = .returned (.iface 73 (.pointer (some ⟨j, 0, none⟩))) ∧ Q w' b 0 false n dr ∧ Chg w w' (fun k => k = b) := by
  go_enter_defers Yba.func15, Yba.ntmps15
  go_wp2_with fail
  refine (qLock h).mono ?_
  rintro e w1 ⟨rfl, h1, c1⟩
  clear h
  obtain ⟨k, hn2, hf2, hn3, hf3, hn⟩ := h1.next
  have hs := h1.setNext false 0
  simp only [nextOf] at hs
  simp only [nextOf, if_true] at hn2
  have cs : Chg w (w1.setCell ⟨b, 2, none⟩ .nilIface) (fun k => k = b) := c1.trans (Chg.setCell _ _ _) (fun _ _ h => h)
  go_wp2_with fail
  refine leaves_cons (f := 26) (args := #[.pointer (some ⟨b, 0, none⟩)]) (by simp) (by simp [go_sem]) ?_
  refine (qUnlock .returning hs).mono ?_
  rintro e u' w2 ⟨rfl, rfl, h2, c2⟩
  exact ⟨_, results_tmp rfl _ _ _, k, rfl, h2, cs.trans c2 (fun _ _ h => h)⟩

/-- pop: the slot is not set, the ring is not empty -/
theorem pop_ring {w : World} {b : Nat} {n : Nat} {dr : Bool} (h : Q w b 0 false (n + 1) dr) :
    Calls Yba.prog 15 #[.pointer (some ⟨b, 0, none⟩)] w fun e w' => ∃ j : Nat, e = .returned (.iface 73 (.pointer (some ⟨j, 0, none⟩))) ∧ Q w' b 0 false n dr ∧ Chg w w' (fun k => k = b) := by
  go_enter_defers Yba.func15, Yba.ntmps15
  go_wp2_with fail
  refine (qLock h).mono ?_
  rintro e w1 ⟨rfl, h1, c1⟩
  clear h
  obtain ⟨k, hn2, hf2, hn3, hf3, hn⟩ := h1.next
  simp only [nextOf] at hn2
  go_wp2_with fail
  refine (popRing1 h1).mono ?_
  rintro e w3 ⟨j, rfl, h3, c3⟩
  clear h1
  go_wp2_with fail
  refine leaves_cons (f := 26) (args := #[.pointer (some ⟨b, 0, none⟩)]) (by simp) (by simp [go_sem]) ?_
  refine (qUnlock .returning h3).mono ?_
  rintro e u' w2 ⟨rfl, rfl, h2, c2⟩
  exact ⟨_, results_tmp rfl _ _ _, j, rfl, h2, (c1.trans c3 (fun _ _ h => h)).trans c2 (fun _ _ h => h)⟩

/-- pop: nothing queued -/
theorem pop_none {w : World} {b : Nat} {dr : Bool} (h : Q w b 0 false 0 dr) :
    Calls Yba.prog 15 #[.pointer (some ⟨b, 0, none⟩)] w fun e w' => e = .returned .nilIface ∧ Q w' b 0 false 0 dr ∧ Chg w w' (fun k => k = b) := by
  go_enter_defers Yba.func15, Yba.ntmps15
  go_wp2_with fail
  refine (qLock h).mono ?_
  rintro e w1 ⟨rfl, h1, c1⟩
  clear h
  obtain ⟨k, hn2, hf2, hn3, hf3, hn⟩ := h1.next
  simp only [nextOf] at hn2
  go_wp2_with fail
  refine (popRing0 h1).mono ?_
  rintro e w' ⟨rfl, rfl⟩
  go_wp2_with fail
  refine leaves_cons (f := 26) (args := #[.pointer (some ⟨b, 0, none⟩)]) (by simp) (by simp [go_sem]) ?_
  refine (qUnlock .returning h1).mono ?_
  rintro e u' w2 ⟨rfl, rfl, h2, c2⟩
  exact ⟨_, results_tmp rfl _ _ _, rfl, h2, c1.trans c2 (fun _ _ h => h)⟩
end Go.Proofs.Ybulkbikc
