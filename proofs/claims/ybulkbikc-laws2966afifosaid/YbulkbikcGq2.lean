/-
  pushYielded: its first statement is a region that draws its order.
-/
import Derived.Test.YbulkbikcGq
namespace Go.Proofs.Ybulkbikc
open Go Go.RowKit

theorem two_new (w : World) (x y : Value) (t : TypeId) : ∀ (j : Nat) (u : Value), [x, y][j]? = some u → (w.alloc (.cells #[x, y] t)).drew.cell? ((⟨w.heap.size, 0, none⟩ : Addr).add j) = some u := by
  intro j u hj
  show (w.alloc (.cells #[x, y] t)).cell? _ = _
  match j, hj with
  | 0, hj => simp at hj; subst hj; simp [Addr.add]
  | 1, hj => simp at hj; subst hj; simp [Addr.add]

theorem pushYie (B : Nat) (rv yv : Value) (n : Int) (m : Nat) (xs : List Value) (wp : Option Addr) (w : World) (hq : QB w B rv yv n) (hr : RowAt w (B + 1) 50 2 yv m xs) (hm : m ≤ 2000) (hn0 : 0 ≤ n) (hn : n ≤ 5000) :
    Calls Yba.prog 9 #[.pointer (some ⟨B, 0, none⟩), .pointer wp] w fun e w' => e = .returned (.tuple #[]) ∧ ∃ yv', QB w' B rv yv' (n + 1) ∧ RowAt w' (B + 1) 50 2 yv' (m + 1) (xs ++ [.pointer wp, .int .u64 0]) ∧
      Chg w w' (fun k => k = B ∨ liveB yv = some k) := by
  obtain ⟨i0, hi, hz0, hz1, hz2⟩ := info_parts info50
  have hc4 := hq.c4
  have hc5 := hq.c5
  have hlt := hq.lt
  have hmx : m + 1 ≤ maxLen := by unfold maxLen; omega
  have one : ∀ u ∈ [Value.pointer wp, Value.int .u64 0], u.oneCell' = true := by intro u hu; simp at hu; rcases hu with rfl | rfl <;> rfl
  go_enter Yba.func9, Yba.ntmps9
  go_wp2
  go_region_law (refine step_append_row _ rfl (.tmp 8) (.tmp 15) 25 rfl (B + 1) 50 i0 (.agg #[.pointer none, .int .u64 0]) 2 16 Yba.underlying25 hi hz0 hz1 hz2 rfl (by decide) yv m xs (by simp [Act.eval]) (hr.alloc _).drew ⟨w.heap.size, 0, none⟩ 1 1 [.pointer wp, .int .u64 0] (by simp [Act.eval]) rfl (two_new _ _ _ _) one (by decide) hmx (by omega) (by simp; omega) ?_; intro v' w1 hrow hg hl; obtain ⟨va, vc, rfl, _, _⟩ := hrow.form; have hq1 : QB w1 B rv yv n := ((hq.kept (Chg.alloc w _) id).kept (Chg.drew (Chg.refl _ (fun _ => False))) id).kept (Chg.grown hg) (hq.ne hr (by decide)); have hc41 := hq1.c4; have hf4 := hq1.fz 4)
  all_goals
    have hne := hq1.ne hrow (by decide)
    have C : Chg w w1 (fun k => k = B ∨ liveB yv = some k) := ((Chg.refl w _).trans (Chg.alloc w _) (fun _ _ h => h.elim)).drew.trans (Chg.grown hg) (fun i _ h => .inr h)
    have F : Hid (liveB (.slice va (m + 1) vc) ≠ some B) := hne
    clear hq hr hc4 hc5 hg hl hne one
    go_wp2_with (go_at_call 22; refine (add64 B 7 n 1 _ (by omega) (by omega) (by omega) (by omega) (hq1.s4 _).c7 ((hq1.s4 _).fz 7)).mono ?_; rintro e w' ⟨rfl, rfl⟩)
    go_end0
    refine ⟨rfl, _, (hq1.s4 _).s7 _, (hrow.setCell_other F.out).setCell_other F.out, ?_⟩
    exact (C.trans (Chg.setCell _ _ _) (fun i _ h => .inl h)).trans (Chg.setCell _ _ _) (fun i _ h => .inl h)
end Go.Proofs.Ybulkbikc
