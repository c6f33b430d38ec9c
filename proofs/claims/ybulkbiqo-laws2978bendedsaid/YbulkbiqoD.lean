/-
  add of a member that is not there; MarkSilent.
-/
import Derived.Test.YbulkbiqoC
import Derived.Deep.RegionHeld3
namespace Go.Proofs.Ybulkbiqo
open Go Go.RowKit Go.MuLone

set_option maxRecDepth 100000 in
set_option maxHeartbeats 400000 in
/-- add, the member not there yet -/
theorem add_yes {w : World} {T base g p : Nat} {dv : Value} {P R : Nat → Int} {X : Nat → Value} (hX : Ifc X) (c d : Int) (t : TypeId) (y : Value) (h : TB w T 0 dv (.slice (some ⟨g, 0, none⟩) p p)) (hr : RowAt w base 40 3 (.slice (some ⟨g, 0, none⟩) p p) p (f3 (mem3 P R X p))) (hp : p ≤ 1024) (hbase : base ≤ w.heap.size)
    (hf : firstAt P R c d 0 p < 0) (hgT : g ≠ T) :
    Calls Yba.prog 12 #[.pointer (some ⟨T, 34, none⟩), .agg #[.int .i64 c, .int .u64 d], .iface t y] w fun e w' => e = .returned (.tuple #[]) ∧ ∃ mv' m, m = (remembered (mem3 P R X p) (c, d, .iface t y)).length ∧ TB w' T 0 dv mv' ∧
      RowAt w' base 40 3 mv' m (f3 (remembered (mem3 P R X p) (c, d, .iface t y))) ∧ Chg w w' (fun k => k = T ∨ k = g) := by
  obtain ⟨q, hq⟩ : ∃ q, q = firstAt P R c d 0 p := ⟨_, rfl⟩
  rw [← hq] at hf
  have h0 := h.kept (Chg.alloc w (.cells #[.int .i64 c, .int .u64 d] 26)) id
  have hl := h.lt
  have HR : Hid (RowAt w base 40 3 (.slice (some ⟨g, 0, none⟩) p p) p (f3 (mem3 P R X p))) := hr
  have HT : Hid (liveB (.slice (some ⟨g, 0, none⟩) p p) ≠ some T) := h.ne hr (by decide)
  have HX : Hid (Ifc X) := hX
  have HQ : Hid (q = firstAt P R c d 0 p) := hq
  clear hr h hX hq
  go_enter_defers Yba.func12, Yba.ntmps12
  go_wp2_with fail
  refine (tLock h0).mono ?_
  rintro e w1 ⟨rfl, h1, c1⟩
  have Hc1 : Hid (Chg w w1 (fun k => k = T ∨ k = g)) := ((Chg.refl w _).trans (Chg.alloc w _) (fun _ _ h => h.elim)).trans c1 (fun _ _ h => .inl h)
  have hr1 : RowAt w1 base 40 3 (.slice (some ⟨g, 0, none⟩) p p) p (f3 (mem3 P R X p)) := c1.row (HR.out.alloc _) (fun k hk e => HT.out (by rw [hk, e]))
  have HR1 : Hid (RowAt w1 base 40 3 (.slice (some ⟨g, 0, none⟩) p p) p (f3 (mem3 P R X p))) := hr1
  have x0 : w1.cell? ⟨w.heap.size, 0, none⟩ = some (.int .i64 c) := c1.cell (by simp) (by show ¬ w.heap.size = T; omega)
  have x1 : w1.cell? ⟨w.heap.size, 1, none⟩ = some (.int .u64 d) := c1.cell (by simp) (by show ¬ w.heap.size = T; omega)
  clear h0 c1 hr1 HR
  go_wp2_with fail
  refine (find15 T 34 g 0 p p P R X HX.out c d w1 hp h1.m (row_cells HR1.out)).mono ?_
  rintro e w2 ⟨rfl, e2⟩
  rw [← HQ.out]
  have h2 := h1.kept e2 id
  have Hc2 : Hid (Chg w w2 (fun k => k = T ∨ k = g)) := Hc1.out.trans e2 (fun _ _ h => h.elim)
  have HR2 : Hid (RowAt w2 base 40 3 (.slice (some ⟨g, 0, none⟩) p p) p (f3 (mem3 P R X p))) := e2.row HR1.out (fun _ _ h => h)
  have y0 := e2.cell x0 id
  have y1 := e2.cell x1 id
  have hm2 := h2.m
  have hb2 : base ≤ w2.heap.size := Nat.le_trans hbase (Hc2.out.size)
  clear h1 e2 HR1 Hc1 x0 x1
  go_wp2_with fail
  refine wp_region_noPanic ?_
  go_region_with (go_at_call 16; refine (remember16 (w := w2.drew) (by exact HR2.out) HX.out.one hp c d t y hb2).mono ?_; rintro e w3 ⟨v', m, rfl, hm, hrow, hc3⟩; have HM : Hid (m = (remembered (mem3 P R X p) (c, d, .iface t y)).length) := hm; clear hm; have h3 : TB w3 T 1 dv (.slice (some ⟨g, 0, none⟩) p p) := TB.kept (w := w2.drew) ⟨h2.d, h2.mu, h2.m, h2.blk⟩ hc3 (fun e => hgT e.symm); have hm3 := h3.m; have hf3 := h3.fz 36; obtain ⟨va, vc, rfl, _, _⟩ := hrow.form)
  all_goals refine NoPanic.normal ?_
  all_goals
    have h4 := h3.setM (.slice va m vc)
    have hlv : liveB (.slice va m vc) ≠ some T := h3.ne hrow (by decide)
    have r4 := hrow.setCell_other (a := ⟨T, 36, none⟩) (u := .slice va m vc) hlv
    have C4 : Chg w (w3.setCell ⟨T, 36, none⟩ (.slice va m vc)) (fun k => k = T ∨ k = g) := (Hc2.out.drew.trans hc3 (fun _ _ h => .inr h)).trans (Chg.setCell _ _ _) (fun _ _ h => .inl h)
    refine leaves_cons (f := 14) (args := #[.pointer (some ⟨T, 34, none⟩)]) (by simp) (by simp [go_sem]) ?_
    refine (tUnlock .returning h4).mono ?_
    rintro e u' w5 ⟨rfl, rfl, h5, c5⟩
    exact ⟨_, results_none rfl _ _ _, rfl, _, m, HM.out, h5, c5.row r4 (fun k hk e => hlv (by rw [hk, e])), C4.trans c5 (fun _ _ h => .inl h)⟩

/-- MarkSilent, the member there already -/
theorem mark_no {w : World} {T base g p : Nat} {dv : Value} {P R : Nat → Int} {X : Nat → Value} (hX : Ifc X) (c d : Int) (t : TypeId) (y : Value) (h : TB w T 0 dv (.slice (some ⟨g, 0, none⟩) p p)) (hr : RowAt w base 40 3 (.slice (some ⟨g, 0, none⟩) p p) p (f3 (mem3 P R X p))) (hp : p ≤ 1024)
    (hf : 0 ≤ firstAt P R c d 0 p) :
    Calls Yba.prog 9 #[.pointer (some ⟨T, 0, none⟩), .agg #[.int .i64 c, .int .u64 d], .iface t y] w fun e w' => e = .returned (.tuple #[]) ∧ TB w' T 0 dv (.slice (some ⟨g, 0, none⟩) p p) ∧ Chg w w' (fun k => k = T) := by
  have HH : Hid (TB w T 0 dv (.slice (some ⟨g, 0, none⟩) p p) ∧ RowAt w base 40 3 (.slice (some ⟨g, 0, none⟩) p p) p (f3 (mem3 P R X p)) ∧ 0 ≤ firstAt P R c d 0 p ∧ Ifc X) := ⟨h, hr, hf, hX⟩
  clear hr hf h hX
  go_enter Yba.func9, Yba.ntmps9
  go_wp2_with fail
  go_region_with (go_at_call 12; refine (add_no (base := base) (P := P) (R := R) (X := X) (dv := dv) (g := g) (p := p) HH.out.2.2.2 c d t y ?_ ?_ hp HH.out.2.2.1).mono ?_; (exact HH.out.1.kept ((Ext.refl w).alloc _).drew id); (exact (HH.out.2.1.alloc _).drew); rintro e w3 ⟨rfl, h3, hc3⟩)
  all_goals
    go_end0
    exact ⟨rfl, h3, ((Ext.refl w).alloc _).drew.widen (fun _ h => h.elim) |>.trans hc3 (fun _ _ h => h)⟩

/-- MarkSilent, the member not there yet -/
theorem mark_yes {w : World} {T base g p : Nat} {dv : Value} {P R : Nat → Int} {X : Nat → Value} (hX : Ifc X) (c d : Int) (t : TypeId) (y : Value) (h : TB w T 0 dv (.slice (some ⟨g, 0, none⟩) p p)) (hr : RowAt w base 40 3 (.slice (some ⟨g, 0, none⟩) p p) p (f3 (mem3 P R X p))) (hp : p ≤ 1024) (hbase : base ≤ w.heap.size)
    (hf : firstAt P R c d 0 p < 0) (hgT : g ≠ T) :
    Calls Yba.prog 9 #[.pointer (some ⟨T, 0, none⟩), .agg #[.int .i64 c, .int .u64 d], .iface t y] w fun e w' => e = .returned (.tuple #[]) ∧ ∃ mv' m, m = (remembered (mem3 P R X p) (c, d, .iface t y)).length ∧ TB w' T 0 dv mv' ∧
      RowAt w' base 40 3 mv' m (f3 (remembered (mem3 P R X p) (c, d, .iface t y))) ∧ Chg w w' (fun k => k = T ∨ k = g) := by
  have HH : Hid (TB w T 0 dv (.slice (some ⟨g, 0, none⟩) p p) ∧ RowAt w base 40 3 (.slice (some ⟨g, 0, none⟩) p p) p (f3 (mem3 P R X p)) ∧ firstAt P R c d 0 p < 0 ∧ Ifc X) := ⟨h, hr, hf, hX⟩
  clear hr hf h hX
  go_enter Yba.func9, Yba.ntmps9
  go_wp2_with fail
  go_region_with (go_at_call 12; refine (add_yes (base := base) (P := P) (R := R) (X := X) (dv := dv) (g := g) (p := p) HH.out.2.2.2 c d t y ?_ ?_ hp ?_ HH.out.2.2.1 hgT).mono ?_; (exact HH.out.1.kept ((Ext.refl w).alloc _).drew id); (exact (HH.out.2.1.alloc _).drew); (simp; omega); rintro e w3 ⟨rfl, mv', m, hm, h3, hr3, hc3⟩)
  all_goals
    go_end0
    exact ⟨rfl, mv', m, hm, h3, hr3, ((Ext.refl w).alloc _).drew.widen (fun _ h => h.elim) |>.trans hc3 (fun _ _ h => h)⟩
end Go.Proofs.Ybulkbiqo
