/-
  LawS2966BModel: no ops; too many ops.
-/
import Derived.Test.YbulkbikcModel
namespace Go.Proofs.Ybulkbikc
open Go Go.RowKit Go.MuLone

set_option maxRecDepth 100000 in
set_option maxHeartbeats 1000000 in
theorem walk4_empty (a0 : Int) (h00 : 0 ≤ a0) (h01 : a0 ≤ 4294967295) (ao : Option Addr) (cap : Nat) (w : World) :
    Calls Yba.prog 4 #[.int .u32 a0, .slice ao 0 cap] w fun e w' => e = .returned (.bool true) ∧ Below w.heap.size w w' := by
  have hmk := mk256
  go_enter Yba.func4, Yba.ntmps4
  go_wp2_with fail
  refine (stHead (b := w.heap.size) (lq0 w _ (by kernel_rfl)) a0).mono ?_
  rintro e w1 ⟨rfl, q1, c1⟩
  go_wp2_with fail
  refine (stTail (b := w.heap.size) q1 a0).mono ?_
  rintro e w2 ⟨rfl, q2, c2⟩
  have Q2 := qOf q2 h00 h01
  have B2 : Below w.heap.size w w2 := (((Below.refl _ _).alloc (Nat.le_refl _) _).trans (c1.below (by simp) (fun k hk e => by omega))).trans (c2.below (by have := c1.size; simp at this; omega) (fun k hk e => by omega))
  have hs2 : w.heap.size < w2.heap.size := Q2.lt
  clear q1 q2 c1 c2
  go_wp2_with fail
  refine (qlenF (Q2.kept (Chg.alloc w2 _) id)).mono ?_
  rintro e w3 ⟨rfl, q3, c3⟩
  have B3 : Below w.heap.size w w3 := (B2.alloc (by omega) _).trans (c3.below (by simp; omega) (fun k hk e => by omega))
  clear Q2 B2 c3 hmk hs2
  go_wp2_with fail
  refine wp_loop_rounds 1 ?_
  rw [rounds_succ]
  go_wp2_with (go_at_call 18; refine (b2iF _).mono ?_; rintro e w' ⟨rfl, hw⟩; have hw' := hw.symm; clear hw; subst hw')
  refine (qlenF q3).mono ?_
  rintro e w4 ⟨rfl, q4, c4⟩
  have b4 := B3.trans (c4.below B3.size (fun k hk e => by omega))
  clear q3 c4 B3
  go_wp2_with fail
  refine (drainF q4).mono ?_
  rintro e w5 ⟨va, vc, rfl, q5, c5⟩
  have b5 := b4.trans (c5.below b4.size (fun k hk e => by omega))
  clear q4 b4 c5
  go_wp2_with fail
  refine (qlenF q5).mono ?_
  rintro e w6 ⟨rfl, q6, c6⟩
  have b6 := b5.trans (c6.below b5.size (fun k hk e => by omega))
  clear q5 b5 c6
  go_wp2
  go_ret
  exact ⟨rfl, b6⟩

theorem walk4_long (a0 : Int) (ao : Option Addr) (len cap : Nat) (hlen : 2048 < len) (w : World) :
    Calls Yba.prog 4 #[.int .u32 a0, .slice ao len cap] w fun e w' => e = .returned (.bool true) ∧ Below w.heap.size w w' := by
  have h : (2048 : Int) < (len : Int) := by omega
  go_enter Yba.func4, Yba.ntmps4
  go_wp2
  go_ret
  exact ⟨rfl, Below.refl _ _⟩
end Go.Proofs.Ybulkbikc
