/-
  The global queue's methods on LawS2966AFifo's road: one contract a method.
-/
import Derived.Test.YbulkbikcRows
import Derived.Test.YbulkbikcRow
namespace Go.Proofs.Ybulkbikc
open Go Go.RowKit

/-- w' is w with new blocks, and with writes to blocks of p alone. -/
structure Chg (w w' : World) (p : Nat → Prop) : Prop where
  os : w'.os = w.os
  tape : w'.tape = w.tape
  output : w'.output = w.output
  size : w.heap.size ≤ w'.heap.size
  block : ∀ k, k < w.heap.size → ¬ p k → w'.heap[k]? = w.heap[k]?

theorem Chg.refl (w : World) (p : Nat → Prop) : Chg w w p := ⟨rfl, rfl, rfl, Nat.le_refl _, fun _ _ _ => rfl⟩
theorem Chg.trans {a b c : World} {p q : Nat → Prop} (h : Chg a b p) (k : Chg b c q) (hq : ∀ i, i < a.heap.size → q i → p i) : Chg a c p :=
  ⟨k.os.trans h.os, k.tape.trans h.tape, k.output.trans h.output, Nat.le_trans h.size k.size,
    fun i hi hp => (k.block i (Nat.lt_of_lt_of_le hi h.size) (fun hqi => hp (hq i hi hqi))).trans (h.block i hi hp)⟩
theorem Chg.grown {w w' : World} {row : Option Nat} (h : w.grownBy w' row) : Chg w w' (fun k => row = some k) :=
  ⟨h.os, h.tape, h.output, h.size, fun k hk hp => h.block k hk (fun e => hp e.symm)⟩
theorem Chg.setCell (w : World) (a : Addr) (u : Value) : Chg w (w.setCell a u) (fun k => k = a.block) :=
  ⟨rfl, rfl, rfl, by simp [World.setCell], fun _ _ hp => Below.heap_setCell _ _ _ _ hp⟩
theorem Chg.alloc (w : World) (o : Obj) : Chg w (w.alloc o) (fun _ => False) := ⟨rfl, rfl, rfl, by simp, fun k hk _ => Below.heap_alloc w o k hk⟩
theorem Chg.drew {w w' : World} {p : Nat → Prop} (h : Chg w w' p) : Chg w w'.drew p := ⟨h.os, h.tape, h.output, h.size, h.block⟩
theorem Chg.row {w w' : World} {p : Nat → Prop} {base : Nat} {e : TypeId} {size : Nat} {v : Value} {n : Nat} {xs : List Value} (hc : Chg w w' p) (h : RowAt w base e size v n xs) (hne : ∀ k, liveB v = some k → ¬ p k) : RowAt w' base e size v n xs := by
  refine ⟨h.1, ?_⟩
  rcases h.2 with hn | ⟨g, off, cap, cur, rfl, hb, hgg, rest⟩
  · exact .inl hn
  · refine .inr ⟨g, off, cap, cur, rfl, hb, ?_, rest⟩
    rw [hc.block g (Array.getElem?_eq_some_iff.1 hgg).1 (hne g (by simp [liveB]))]
    exact hgg
theorem Chg.below {w w' : World} {p : Nat → Prop} {B : Nat} (hc : Chg w w' p) (hB : B ≤ w.heap.size) (hp : ∀ k, k < B → ¬ p k) : Below B w w' :=
  ⟨hc.os, hc.tape, hc.output, hc.size, fun k hk => hc.block k (by omega) (hp k hk)⟩

/-- The queue's own block. -/
def qCells (rv yv : Value) (n : Int) : Array Value := #[.pointer none, .pointer none, .pointer none, rv, yv, .int .u64 0, .int .u64 0, .int .i64 n]
def QB (w : World) (B : Nat) (rv yv : Value) (n : Int) : Prop := w.heap[B]? = some (.cells (qCells rv yv n) 33 (0, 0))

section
variable {w : World} {B : Nat} {rv yv : Value} {n : Int}
theorem QB.lt (h : QB w B rv yv n) : B < w.heap.size := (Array.getElem?_eq_some_iff.1 h).1
theorem QB.c3 (h : QB w B rv yv n) : w.cell? ⟨B, 3, none⟩ = some rv := by rw [cell_of_row w B 3 _ _ _ h]; rfl
theorem QB.c4 (h : QB w B rv yv n) : w.cell? ⟨B, 4, none⟩ = some yv := by rw [cell_of_row w B 4 _ _ _ h]; rfl
theorem QB.c5 (h : QB w B rv yv n) : w.cell? ⟨B, 5, none⟩ = some (.int .u64 0) := by rw [cell_of_row w B 5 _ _ _ h]; rfl
theorem QB.c7 (h : QB w B rv yv n) : w.cell? ⟨B, 7, none⟩ = some (.int .i64 n) := by rw [cell_of_row w B 7 _ _ _ h]; rfl
theorem QB.fz (h : QB w B rv yv n) (j : Nat) : w.frozen? ⟨B, j, none⟩ = false := by
  have h' : w.heap[B]? = some (.cells (qCells rv yv n) 33 (0, 0)) := h
  simp [World.frozen?, h']
theorem QB.s3 (h : QB w B rv yv n) (v : Value) : QB (w.setCell ⟨B, 3, none⟩ v) B v yv n := heap_setCell_same w B 3 _ 33 v h
theorem QB.s4 (h : QB w B rv yv n) (v : Value) : QB (w.setCell ⟨B, 4, none⟩ v) B rv v n := heap_setCell_same w B 4 _ 33 v h
theorem QB.s7 (h : QB w B rv yv n) (k : Int) : QB (w.setCell ⟨B, 7, none⟩ (.int .i64 k)) B rv yv k := heap_setCell_same w B 7 _ 33 _ h
theorem QB.kept {w' : World} {p : Nat → Prop} (h : QB w B rv yv n) (hc : Chg w w' p) (hp : ¬ p B) : QB w' B rv yv n := (hc.block B h.lt hp).trans h
/-- The queue's block is no slice's row (of another element type). -/
theorem QB.ne {base : Nat} {e : TypeId} {size : Nat} {v : Value} {m : Nat} {xs : List Value} (h : QB w B rv yv n) (r : RowAt w base e size v m xs) (he : e ≠ 33) : liveB v ≠ some B := by
  intro hb
  obtain ⟨_, _, cur, hk⟩ := r.lt B hb
  rw [h] at hk
  simp only [Option.some.injEq, Obj.cells.injEq] at hk
  exact he hk.2.1.symm
end

theorem add64 (b off : Nat) (x d : Int) (w : World) (hx0 : -10000 ≤ x) (hx1 : x ≤ 10000) (hd0 : -10000 ≤ d) (hd1 : d ≤ 10000) (hc : w.cell? ⟨b, off, none⟩ = some (.int .i64 x)) (hz : w.frozen? ⟨b, off, none⟩ = false) :
    Calls Yba.prog 22 #[.pointer (some ⟨b, off, none⟩), .int .i64 d] w fun e w' => e = .returned (.int .i64 (x + d)) ∧ w' = w.setCell ⟨b, off, none⟩ (.int .i64 (x + d)) := by
  have hs : (Op.intArith .add .i64 x d).run Yba.prog w = .ok (.int .i64 (x + d)) w := by
    have : IntKind.i64.wrap (x + d) = x + d := by rw [IntKind.wrap_i64]; omega
    simp [go_sem, this]
  have hl := run_call_add (P := Yba.prog) Yba.func34 (by kernel_rfl) (by kernel_rfl) (by kernel_rfl) .i64 (by kernel_rfl) hc hz hs
  go_enter Yba.func22, Yba.ntmps22
  go_wp2
  go_ret
  exact ⟨rfl, rfl⟩

theorem load64 (b off : Nat) (x : Int) (w : World) (hc : w.cell? ⟨b, off, none⟩ = some (.int .i64 x)) :
    Calls Yba.prog 23 #[.pointer (some ⟨b, off, none⟩)] w fun e w' => e = .returned (.int .i64 x) ∧ w' = w := by
  have hl := run_call_load (P := Yba.prog) Yba.func35 (by kernel_rfl) (by kernel_rfl) (by kernel_rfl) .i64 (by kernel_rfl) hc
  go_enter Yba.func23, Yba.ntmps23
  go_wp2
  go_ret
  exact ⟨rfl, rfl⟩

theorem qlen (B : Nat) (rv yv : Value) (n : Int) (w : World) (hq : QB w B rv yv n) :
    Calls Yba.prog 11 #[.pointer (some ⟨B, 0, none⟩)] w fun e w' => e = .returned (.int .i64 n) ∧ w' = w := by
  go_enter Yba.func11, Yba.ntmps11
  go_wp2_with (go_at_call 23; refine (load64 B 7 n _ hq.c7).mono ?_; rintro e w' ⟨rfl, rfl⟩)
  go_ret
  exact ⟨rfl, rfl⟩

theorem info35 : (Yba.prog.info? 35).map (fun i => (i.zero, i.size, i.bytes)) = some (some (.pointer none), 1, 8) := by kernel_rfl
theorem info50 : (Yba.prog.info? 50).map (fun i => (i.zero, i.size, i.bytes)) = some (some (.agg #[.pointer none, .int .u64 0]), 2, 16) := by kernel_rfl
theorem info3 : (Yba.prog.info? 3).map (fun i => (i.zero, i.size, i.bytes)) = some (some (.int .i64 0), 1, 8) := by kernel_rfl

theorem pushRes (B : Nat) (rv yv : Value) (n : Int) (m : Nat) (xs : List Value) (wp : Option Addr) (w : World) (hq : QB w B rv yv n) (hr : RowAt w (B + 1) 35 1 rv m xs) (hm : m ≤ 2000) (hn0 : 0 ≤ n) (hn : n ≤ 5000) :
    Calls Yba.prog 8 #[.pointer (some ⟨B, 0, none⟩), .pointer wp] w fun e w' => e = .returned (.tuple #[]) ∧ ∃ rv', QB w' B rv' yv (n + 1) ∧ RowAt w' (B + 1) 35 1 rv' (m + 1) (xs ++ [.pointer wp]) ∧
      Chg w w' (fun k => k = B ∨ liveB rv = some k) ∧ (∀ k, liveB rv' = some k → liveB rv = some k ∨ w.heap.size ≤ k) := by
  obtain ⟨i0, hi, hz0, hz1, hz2⟩ := info_parts info35
  have hc3 := hq.c3
  have hlt := hq.lt
  go_enter Yba.func8, Yba.ntmps8
  go_wp2_with (at_builtin; refine wpList_append_row _ rfl _ _ 24 rfl (B + 1) 35 i0 (.pointer none) 1 8 Yba.underlying24 hi hz0 hz1 hz2 rfl (by decide) _ _ _ rfl (hr.alloc _) ⟨w.heap.size, 0, none⟩ 1 1 [.pointer wp] rfl rfl ?c1 ?c2 ?c3 ?c4 ?c5 ?c6 ?_)
  case c1 =>
    intro j u hj
    match j, hj with
    | 0, hj => simp at hj; subst hj; simp [Addr.add]
  case c2 => intro u hu; simp at hu; subst hu; rfl
  case c3 => decide
  case c4 => unfold maxLen; omega
  case c5 => omega
  case c6 => simp; omega
  intro v' w1 hrow hg hl
  obtain ⟨va, vc, rfl, _, _⟩ := hrow.form
  have hq1 : QB w1 B rv yv n := (hq.kept (Chg.alloc w _) id).kept (Chg.grown hg) (hq.ne hr (by decide))
  have hne := hq1.ne hrow (by decide)
  have hc31 := hq1.c3
  have hf3 := hq1.fz 3
  have C : Chg w w1 (fun k => k = B ∨ liveB rv = some k) := ((Chg.refl w _).trans (Chg.alloc w _) (fun _ _ h => h.elim)).trans (Chg.grown hg) (fun i _ h => .inr h)
  have L : ∀ k, liveB (.slice va (m + 1) vc) = some k → liveB rv = some k ∨ w.heap.size ≤ k := fun k hk => (hl k hk).imp id (fun h => by omega)
  have F : Hid ((∀ k, liveB (.slice va (m + 1) vc) = some k → liveB rv = some k ∨ w.heap.size ≤ k) ∧ liveB (.slice va (m + 1) vc) ≠ some B) := ⟨L, hne⟩
  clear hq hr hc3 hg hl L hne
  go_wp2_with (go_at_call 22; refine (add64 B 7 n 1 _ (by omega) (by omega) (by omega) (by omega) (hq1.s3 _).c7 ((hq1.s3 _).fz 7)).mono ?_; rintro e w' ⟨rfl, rfl⟩)
  go_end0
  refine ⟨rfl, _, (hq1.s3 _).s7 _, (hrow.setCell_other F.out.2).setCell_other F.out.2, ?_, F.out.1⟩
  exact (C.trans (Chg.setCell _ _ _) (fun i _ h => .inl h)).trans (Chg.setCell _ _ _) (fun i _ h => .inl h)

/-- popResumed, none queued -/
theorem popRes0 (B : Nat) (ra : Option Addr) (rc : Nat) (yv : Value) (n : Int) (w : World) (hq : QB w B (.slice ra 0 rc) yv n) :
    Calls Yba.prog 10 #[.pointer (some ⟨B, 0, none⟩)] w fun e w' => e = .returned (.pointer none) ∧ w' = w := by
  have hc3 := hq.c3
  go_enter Yba.func10, Yba.ntmps10
  go_wp2
  go_ret
  exact ⟨rfl, rfl⟩

/-- popResumed, one or more queued -/
theorem popRes1 (B : Nat) (g off cap : Nat) (yv : Value) (n : Int) (m : Nat) (wp : Option Addr) (xs : List Value) (w : World) (hq : QB w B (.slice (some ⟨g, off, none⟩) (m + 1) cap) yv n)
    (hr : RowAt w (B + 1) 35 1 (.slice (some ⟨g, off, none⟩) (m + 1) cap) (m + 1) (.pointer wp :: xs)) (hm : m ≤ 2000) (hn0 : 0 ≤ n) (hn : n ≤ 5000) :
    Calls Yba.prog 10 #[.pointer (some ⟨B, 0, none⟩)] w fun e w' => e = .returned (.pointer wp) ∧ ∃ ra, QB w' B (.slice ra m (cap - 1)) yv (n + -1) ∧ RowAt w' (B + 1) 35 1 (.slice ra m (cap - 1)) m xs ∧
      Chg w w' (fun k => k = B ∨ k = g) ∧ (∀ k, liveB (.slice ra m (cap - 1)) = some k → k = g) ∧ w'.cell? ⟨g, off, none⟩ = some (.pointer none) := by
  obtain ⟨g', off', cap', hv, hlive, hcap, hcm, hcell, hfz⟩ := hr.at (by omega)
  simp only [Value.slice.injEq, Option.some.injEq, Addr.mk.injEq, and_true, true_and] at hv
  obtain ⟨⟨rfl, rfl⟩, rfl⟩ := hv
  have hgB : ¬ g = B := fun e => hq.ne hr (by decide) (by rw [hlive, e])
  have hc3 := hq.c3
  have hc0 : w.cell? ⟨g, off, none⟩ = some (.pointer wp) := by simpa using hcell 0 (by omega)
  have hf0 := hfz off
  have hf3 := hq.fz 3
  have hst := hr.stored (by omega) 0 (.pointer none)
  simp only [Nat.add_zero, List.set_cons_zero] at hst
  have hq1 : QB (w.setCell ⟨g, off, none⟩ (.pointer none)) B (.slice (some ⟨g, off, none⟩) (m + 1) cap) yv n := hq.kept (Chg.setCell _ _ _) (fun e => hgB e.symm)
  have hc31 := hq1.c3
  have fin1 : ∀ ra : Option Addr, ra = (if cap = 1 then some ⟨g, off, none⟩ else some ⟨g, off + 1, none⟩) →
      ∃ ra', QB (((w.setCell ⟨g, off, none⟩ (.pointer none)).setCell ⟨B, 3, none⟩ (.slice ra m (cap - 1))).setCell ⟨B, 7, none⟩ (.int .i64 (n + -1))) B (.slice ra' m (cap - 1)) yv (n + -1) ∧
        RowAt (((w.setCell ⟨g, off, none⟩ (.pointer none)).setCell ⟨B, 3, none⟩ (.slice ra m (cap - 1))).setCell ⟨B, 7, none⟩ (.int .i64 (n + -1))) (B + 1) 35 1 (.slice ra' m (cap - 1)) m xs ∧
        Chg w (((w.setCell ⟨g, off, none⟩ (.pointer none)).setCell ⟨B, 3, none⟩ (.slice ra m (cap - 1))).setCell ⟨B, 7, none⟩ (.int .i64 (n + -1))) (fun k => k = B ∨ k = g) ∧
        (∀ k, liveB (.slice ra' m (cap - 1)) = some k → k = g) ∧
        (((w.setCell ⟨g, off, none⟩ (.pointer none)).setCell ⟨B, 3, none⟩ (.slice ra m (cap - 1))).setCell ⟨B, 7, none⟩ (.int .i64 (n + -1))).cell? ⟨g, off, none⟩ = some (.pointer none) := by
    intro ra hra
    have tl := RowAt.tail_live (n := m) (size := 1) hra
    have hne : liveB (.slice ra m (cap - 1)) ≠ some B := fun h => hgB (tl B h).symm
    refine ⟨ra, (hq1.s3 _).s7 _, ((hst.1.tail ra hra).setCell_other hne).setCell_other hne, ?_, tl, ?_⟩
    · exact (((Chg.refl w _).trans (Chg.setCell _ _ _) (fun i _ h => .inr h)).trans (Chg.setCell _ _ _) (fun i _ h => .inl h)).trans (Chg.setCell _ _ _) (fun i _ h => .inl h)
    · rw [World.cell?_setCell_other _ ⟨B, 7, none⟩ ⟨g, off, none⟩ _ (by simp), World.cell?_setCell_other _ ⟨B, 3, none⟩ ⟨g, off, none⟩ _ (by simp)]
      exact World.cell?_setCell_same _ _ _ hc0
  unfold maxLen at hcm
  go_enter Yba.func10, Yba.ntmps10
  go_wp2_with fail
  all_goals
    refine (add64 B 7 n (-1) _ (by omega) (by omega) (by omega) (by omega) (hq1.s3 _).c7 ((hq1.s3 _).fz 7)).mono ?_
    rintro e w' ⟨rfl, rfl⟩
    go_wp2
    go_ret
  · obtain rfl : cap = 1 := by omega
    exact ⟨rfl, fin1 _ rfl⟩
  · exact ⟨rfl, fin1 _ (by rw [if_neg (by omega)])⟩
end Go.Proofs.Ybulkbikc
