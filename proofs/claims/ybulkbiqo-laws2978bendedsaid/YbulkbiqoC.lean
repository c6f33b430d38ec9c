/-
  add, MarkSilent, linkingEnded over the Train's block and two rows.
-/
import Derived.Test.YbulkbiqoB
import Derived.Deep.RegionWith
namespace Go.Proofs.Ybulkbiqo
open Go Go.RowKit Go.MuLone

/-- The Train's block: what of it is looked at. -/
structure TB (w : World) (T : Nat) (l : Int) (dv mv : Value) : Prop where
  d : w.cell? ⟨T, 33, none⟩ = some dv
  mu : w.cell? ⟨T, 34, none⟩ = some (.int .i32 l)
  m : w.cell? ⟨T, 36, none⟩ = some mv
  blk : ∃ cur, w.heap[T]? = some (.cells cur 106 (0, 0))

section
variable {w : World} {T : Nat} {l : Int} {dv mv : Value}
theorem TB.lt (h : TB w T l dv mv) : T < w.heap.size := World.block_lt_of_cell? _ _ h.mu
theorem TB.fz (h : TB w T l dv mv) (j : Nat) : w.frozen? ⟨T, j, none⟩ = false := by obtain ⟨cur, hc⟩ := h.blk; simp [World.frozen?, hc]
theorem TB.kept {w' : World} {p : Nat → Prop} (h : TB w T l dv mv) (hc : Chg w w' p) (hp : ¬ p T) : TB w' T l dv mv :=
  ⟨hc.cell h.d hp, hc.cell h.mu hp, hc.cell h.m hp, h.blk.imp fun _ hb => (hc.block T h.lt hp).trans hb⟩
theorem TB.other (w : World) (b i j : Nat) (v : Value) (h : i ≠ j) : (w.setCell ⟨b, i, none⟩ v).cell? ⟨b, j, none⟩ = w.cell? ⟨b, j, none⟩ := World.cell?_setCell_other w ⟨b, i, none⟩ ⟨b, j, none⟩ v (fun e => h (congrArg Addr.off e))
theorem TB.setD (h : TB w T l dv mv) (v : Value) : TB (w.setCell ⟨T, 33, none⟩ v) T l v mv :=
  ⟨World.cell?_setCell_same _ _ _ h.d, (TB.other _ _ _ _ _ (by omega)).trans h.mu, (TB.other _ _ _ _ _ (by omega)).trans h.m, h.blk.elim fun cur hb => ⟨_, heap_setCell_same w T 33 cur 106 v hb⟩⟩
theorem TB.setMu (h : TB w T l dv mv) (x : Int) : TB (w.setCell ⟨T, 34, none⟩ (.int .i32 x)) T x dv mv :=
  ⟨(TB.other _ _ _ _ _ (by omega)).trans h.d, World.cell?_setCell_same _ _ _ h.mu, (TB.other _ _ _ _ _ (by omega)).trans h.m, h.blk.elim fun cur hb => ⟨_, heap_setCell_same w T 34 cur 106 _ hb⟩⟩
theorem TB.setM (h : TB w T l dv mv) (v : Value) : TB (w.setCell ⟨T, 36, none⟩ v) T l dv v :=
  ⟨(TB.other _ _ _ _ _ (by omega)).trans h.d, (TB.other _ _ _ _ _ (by omega)).trans h.mu, World.cell?_setCell_same _ _ _ h.m, h.blk.elim fun cur hb => ⟨_, heap_setCell_same w T 36 cur 106 v hb⟩⟩
/-- The Train's block is no row. -/
theorem TB.ne {base : Nat} {e : TypeId} {size : Nat} {v : Value} {k : Nat} {xs : List Value} (h : TB w T l dv mv) (r : RowAt w base e size v k xs) (he : e ≠ 106) : liveB v ≠ some T := by
  intro hb
  obtain ⟨_, _, cur, hk⟩ := r.lt T hb
  obtain ⟨cur', hc⟩ := h.blk
  rw [hc] at hk
  simp only [Option.some.injEq, Obj.cells.injEq] at hk
  exact he hk.2.1.symm
end

theorem tLock {w : World} {T : Nat} {dv mv : Value} (h : TB w T 0 dv mv) :
    Calls Yba.prog 13 #[.pointer (some ⟨T, 34, none⟩)] w fun e w' => e = .returned (.tuple #[]) ∧ TB w' T 1 dv mv ∧ Chg w w' (fun k => k = T) := by
  refine (lock_free Yba.muLib ⟨T, 34, none⟩ w h.mu (h.fz 34)).mono ?_
  rintro e w' ⟨rfl, rfl⟩
  exact ⟨rfl, h.setMu 1, Chg.setCell _ _ _⟩
theorem tUnlock {w : World} {T : Nat} {dv mv : Value} (u : FrameMode) (h : TB w T 1 dv mv) :
    CallsD Yba.prog 14 #[.pointer (some ⟨T, 34, none⟩)] u w fun e u' w' => u' = u ∧ (e = .returned (.tuple #[]) ∧ TB w' T 0 dv mv ∧ Chg w w' (fun k => k = T)) := by
  refine (unlock_deferred Yba.muLib ⟨T, 34, none⟩ u w h.mu (h.fz 34)).mono ?_
  rintro e u' w' ⟨rfl, rfl, rfl⟩
  exact ⟨rfl, rfl, h.setMu 0, Chg.setCell _ _ _⟩

/-- The members, by index. -/
def mem3 (P R : Nat → Int) (X : Nat → Value) (p : Nat) : List (Int × Int × Value) := (List.range p).map fun i => (P i, R i, X i)

theorem mem3_get (P R : Nat → Int) (X : Nat → Value) (p i : Nat) (hi : i < p) : (mem3 P R X p)[i]? = some (P i, R i, X i) := by simp [mem3, hi]

/-- A row's cells, by index. -/
theorem row_cells {w : World} {base : Nat} {e : TypeId} {g p : Nat} {P R : Nat → Int} {X : Nat → Value} {c : Nat} (h : RowAt w base e 3 (.slice (some ⟨g, 0, none⟩) p c) p (f3 (mem3 P R X p))) :
    ∀ i, i < p → w.cell? ⟨g, 0 + i * 3, none⟩ = some (.int .i64 (P i)) ∧ w.cell? ⟨g, 0 + i * 3 + 1, none⟩ = some (.int .u64 (R i)) ∧ w.cell? ⟨g, 0 + i * 3 + 2, none⟩ = some (X i) := by
  intro i hi
  obtain ⟨g', off', cap', hv, _, _, _, hc, _⟩ := h.at (by omega)
  simp only [Value.slice.injEq, Option.some.injEq, Addr.mk.injEq, and_true, true_and] at hv
  obtain ⟨⟨rfl, rfl⟩, rfl⟩ := hv
  have := f3_get (mem3 P R X p) i _ (mem3_get P R X p i hi)
  refine ⟨?_, ?_, ?_⟩
  · rw [hc (i * 3) (by omega), this.1]
  · rw [Nat.add_assoc, hc (i * 3 + 1) (by omega), this.2.1]
  · rw [Nat.add_assoc, hc (i * 3 + 2) (by omega), this.2.2]

def Ifc (X : Nat → Value) : Prop := ∀ i, X i = .nilIface ∨ ∃ t y, X i = .iface t y
theorem Ifc.one {P R : Nat → Int} {X : Nat → Value} {p : Nat} (h : Ifc X) : One (mem3 P R X p) := by
  intro x hx
  simp only [mem3, List.mem_map] at hx
  obtain ⟨i, _, rfl⟩ := hx
  rcases h i with e | ⟨t, y, e⟩ <;> simp [e, Value.oneCell']

set_option maxHeartbeats 400000 in
/-- add, the member there already -/
theorem add_no {w : World} {T base g p : Nat} {dv : Value} {P R : Nat → Int} {X : Nat → Value} (hX : Ifc X) (c d : Int) (t : TypeId) (y : Value) (h : TB w T 0 dv (.slice (some ⟨g, 0, none⟩) p p)) (hr : RowAt w base 40 3 (.slice (some ⟨g, 0, none⟩) p p) p (f3 (mem3 P R X p))) (hp : p ≤ 1024)
    (hf : 0 ≤ firstAt P R c d 0 p) :
    Calls Yba.prog 12 #[.pointer (some ⟨T, 34, none⟩), .agg #[.int .i64 c, .int .u64 d], .iface t y] w fun e w' => e = .returned (.tuple #[]) ∧ TB w' T 0 dv (.slice (some ⟨g, 0, none⟩) p p) ∧ Chg w w' (fun k => k = T) := by
  obtain ⟨q, hq⟩ : ∃ q, q = firstAt P R c d 0 p := ⟨_, rfl⟩
  rw [← hq] at hf
  have h0 := h.kept (Chg.alloc w (.cells #[.int .i64 c, .int .u64 d] 26)) id
  have hl := h.lt
  have HR : Hid (RowAt w base 40 3 (.slice (some ⟨g, 0, none⟩) p p) p (f3 (mem3 P R X p))) := hr
  have HT : Hid (liveB (.slice (some ⟨g, 0, none⟩) p p) ≠ some T) := h.ne hr (by decide)
  have HX : Hid (Ifc X) := hX
  have HQ : Hid (q = firstAt P R c d 0 p) := hq
  clear hr h hX hq
  go_enter_defers Yba.func12, Yba.ntmps12
  go_wp2_with fail
  refine (tLock h0).mono ?_
  rintro e w1 ⟨rfl, h1, c1⟩
  have Hc1 : Hid (Chg w w1 (fun k => k = T)) := ((Chg.refl w _).trans (Chg.alloc w _) (fun _ _ h => h.elim)).trans c1 (fun _ _ h => h)
  have hr1 : RowAt w1 base 40 3 (.slice (some ⟨g, 0, none⟩) p p) p (f3 (mem3 P R X p)) := Hc1.out.row HR.out (fun k hk e => HT.out (by rw [hk, e]))
  have HR1 : Hid (RowAt w1 base 40 3 (.slice (some ⟨g, 0, none⟩) p p) p (f3 (mem3 P R X p))) := hr1
  have x0 : w1.cell? ⟨w.heap.size, 0, none⟩ = some (.int .i64 c) := c1.cell (by simp) (by show ¬ w.heap.size = T; omega)
  have x1 : w1.cell? ⟨w.heap.size, 1, none⟩ = some (.int .u64 d) := c1.cell (by simp) (by show ¬ w.heap.size = T; omega)
  clear h0 c1 hr1 HR
  go_wp2_with fail
  refine (find15 T 34 g 0 p p P R X HX.out c d w1 hp h1.m (row_cells HR1.out)).mono ?_
  rintro e w2 ⟨rfl, e2⟩
  rw [← HQ.out]
  have h2 := h1.kept e2 id
  have Hc2 : Hid (Chg w w2 (fun k => k = T)) := Hc1.out.trans e2 (fun _ _ h => h.elim)
  clear h1 e2 HR1
  go_wp2_with fail
  refine leaves_cons (f := 14) (args := #[.pointer (some ⟨T, 34, none⟩)]) (by simp) (by simp [go_sem]) ?_
  refine (tUnlock .returning h2).mono ?_
  rintro e u' w3 ⟨rfl, rfl, h3, c3⟩
  exact ⟨_, results_none rfl _ _ _, rfl, h3, Hc2.out.trans c3 (fun _ _ h => h)⟩
end Go.Proofs.Ybulkbiqo
