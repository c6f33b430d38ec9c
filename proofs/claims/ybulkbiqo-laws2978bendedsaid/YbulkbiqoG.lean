/-
  LawS2978BEnded: what stands in memory, loop by loop.
-/
import Derived.Test.YbulkbiqoF
import Derived.Deep.DeepCutAuto
import Derived.Deep.CutBlock
import Derived.Deep.QuietTactic
import Derived.BigQuiet
import Derived.OpenShut
import Derived.LaidEqlPtr
import Derived.Deep.RegionHeld3
namespace Go.Proofs.Ybulkbiqo
open Go Go.RowKit Go.MuLone

theorem info26 : (Yba.prog.info? 26).map (fun i => (i.zero, i.size, i.bytes)) = some (some (.agg #[.int .i64 0, .int .u64 0]), 2, 16) := by kernel_rfl
theorem info4 : (Yba.prog.info? 4).map (fun i => (i.zero, i.size, i.bytes)) = some (some (.bool false), 1, 1) := by kernel_rfl

/-- A slice of dials that came in. -/
def DIn (w : World) (a : Option Addr) (n : Nat) (id inc : Nat → Int) (H : Nat → Bool) : Prop :=
  0 < n → ∃ b o, a = some ⟨b, o, none⟩ ∧ b < w.heap.size ∧ ∀ i, i < n → w.cell? ⟨b, o + i * 3, none⟩ = some (.int .u8 (id i)) ∧ w.cell? ⟨b, o + i * 3 + 1, none⟩ = some (.int .u8 (inc i)) ∧ w.cell? ⟨b, o + i * 3 + 2, none⟩ = some (.bool (H i)) ∧
    0 ≤ id i ∧ id i ≤ 255 ∧ 0 ≤ inc i ∧ inc i ≤ 255
/-- A slice of members that came in. -/
def PIn (w : World) (a : Option Addr) (n : Nat) (id inc : Nat → Int) : Prop :=
  0 < n → ∃ b o, a = some ⟨b, o, none⟩ ∧ b < w.heap.size ∧ ∀ i, i < n → w.cell? ⟨b, o + i * 2, none⟩ = some (.int .u8 (id i)) ∧ w.cell? ⟨b, o + i * 2 + 1, none⟩ = some (.int .u8 (inc i)) ∧
    0 ≤ id i ∧ id i ≤ 255 ∧ 0 ≤ inc i ∧ inc i ≤ 255

/-- err: nil, or a new error. -/
def ErrOk (f : Bool) (v : Value) : Prop := (f = false ∧ v = .nilIface) ∨ (f = true ∧ ∃ k : Nat, v = .iface 113 (.pointer (some ⟨k, 0, none⟩)))
theorem ErrOk.no {f : Bool} {v : Value} (h : f = false) (h2 : v = .nilIface) : ErrOk f v := .inl ⟨h, h2⟩
theorem ErrOk.yes {f : Bool} {v : Value} (h : f = true) (k : Nat) (h2 : v = .iface 113 (.pointer (some ⟨k, 0, none⟩))) : ErrOk f v := .inr ⟨h, k, h2⟩

/-- The member's variable; nothing old has turned. -/
structure E0 (w W : World) (wb : Nat) (c d : Int) : Prop where
  be : Below w.heap.size w W
  w0 : W.cell? ⟨wb, 0, none⟩ = some (.int .i64 c)
  w1 : W.cell? ⟨wb, 1, none⟩ = some (.int .u64 d)
  lo : w.heap.size ≤ wb
theorem E0.size {w W : World} {wb : Nat} {c d : Int} (h : E0 w W wb c d) : w.heap.size ≤ W.heap.size := h.be.size
theorem E0.lt {w W : World} {wb : Nat} {c d : Int} (h : E0 w W wb c d) : wb < W.heap.size := World.block_lt_of_cell? _ _ h.w0
theorem E0.kept {w W W' : World} {wb : Nat} {c d : Int} {q : Nat → Prop} (h : E0 w W wb c d) (hc : Chg W W' q) (hq : ∀ k, k ≤ wb → ¬ q k) : E0 w W' wb c d :=
  ⟨h.be.trans (hc.below h.be.size (fun k hk => hq k (by have := h.lo; omega))), hc.cell h.w0 (hq wb (Nat.le_refl _)), hc.cell h.w1 (hq wb (Nat.le_refl _)), h.lo⟩
theorem E0.alloc {w W : World} {wb : Nat} {c d : Int} (h : E0 w W wb c d) (o : Obj) : E0 w (W.alloc o) wb c d := h.kept (Chg.alloc W o) (fun _ _ h => h)
theorem E0.start (w : World) (c d : Int) : E0 w ((w.alloc (.cells #[.int .i64 c, .int .u64 d] 26)).alloc (.cells #[.int .i64 c, .int .u64 d] 26)) (w.heap.size + 1) c d := by
  refine ⟨((Below.refl _ _).alloc (Nat.le_refl _) _).alloc (by simp) _, ?_, ?_, by omega⟩
  · simp
  · simp

theorem made3 (x y : Int) (v : Value) (n : Nat) : (madeCells #[.int .i64 x, .int .u64 y, v] (n * 3)).toList = f3 (List.replicate n (x, y, v)) := by
  unfold madeCells
  rw [Array.toList_map, Array.toList_range]
  induction n with
  | zero => rfl
  | succ n ih =>
    rw [List.replicate_succ', f3_append, ← ih, show (n + 1) * 3 = n * 3 + 1 + 1 + 1 from by omega, List.range_succ, List.range_succ, List.range_succ]
    simp only [List.map_append, List.map_cons, List.map_nil, List.append_assoc, List.cons_append, List.nil_append]
    congr 1
    have e0 : n * 3 % 3 = 0 := by omega
    have e1 : (n * 3 + 1) % 3 = 1 := by omega
    have e2 : (n * 3 + 1 + 1) % 3 = 2 := by omega
    simp [e0, e1, e2, f3, el3]

/-- In the first loop. -/
def L1 (w W : World) (wb gd n k : Nat) (c d : Int) (A B : Nat → Int) (H : Nat → Bool) : Prop :=
  E0 w W wb c d ∧ RowAt W w.heap.size 35 3 (.slice (some ⟨gd, 0, none⟩) n n) n (f3 (mem3 (upto k A 0) (upto k B 0) (upto k (fun i => .bool (H i)) (.bool false)) n)) ∧ gd < W.heap.size ∧ wb < gd

theorem L1.start {w W W1 : World} {wb n : Nat} {c d : Int} {o : Obj} (A B : Nat → Int) (H : Nat → Bool) (e0 : E0 w W wb c d) (hg : (W.alloc o).grownBy W1 none) {gd : Nat} (hgd : gd = W.heap.size + 1)
    (hown : W1.ownsRow w.heap.size 35 3 (.slice (some ⟨(W.alloc o).heap.size, 0, none⟩) n n) n (madeCells (Value.agg #[.int .i64 0, .int .u64 0, .bool false]).cells (n * 3)).toList) (hl : gd < W1.heap.size) : L1 w W1 wb gd n 0 c d A B H := by
  subst hgd
  have hown : W1.ownsRow w.heap.size 35 3 (.slice (some ⟨W.heap.size + 1, 0, none⟩) n n) n (madeCells #[.int .i64 0, .int .u64 0, .bool false] (n * 3)).toList := by
    have := hown; rw [World.size_alloc] at this; exact this
  refine ⟨(e0.alloc o).kept (Chg.grown hg) (by simp), ?_, hl, by have := e0.lt; omega⟩
  rw [mem3_none, ← made3]
  exact RowAt.own hown

theorem live_slice {g o n c i : Nat} (h : liveB (.slice (some ⟨g, o, none⟩) n c) = some i) : i = g := by
  cases c with
  | zero => simp [liveB] at h
  | succ c => simpa [liveB] using h.symm

theorem L1.step {w W : World} {wb gd n k : Nat} {c d : Int} {A B : Nat → Int} {H : Nat → Bool} (h : L1 w W wb gd n k c d A B H) (hk : k < n) (o1 o2 : Obj) :
    L1 w ((((((W.setCell ⟨gd, k * 3, none⟩ (.int .i64 (A k))).setCell ⟨gd, k * 3 + 1, none⟩ (.int .u64 (B k))).setCell ⟨gd, k * 3 + 2, none⟩ (.bool (H k))).alloc o1).alloc o2).drew) wb gd n (k + 1) c d A B H := by
  obtain ⟨e0, r, hl, hw⟩ := h
  have r2 := row_set3 r k hk (A k) (B k) (.bool (H k))
  have e1 := ((e0.kept r2.2 (fun i hi e => by omega)).alloc o1).alloc o2
  rw [mem3_upto A B (fun i => .bool (H i)) (.bool false) n k hk] at r2
  exact ⟨⟨⟨e1.be.os, e1.be.tape, e1.be.output, e1.be.size, e1.be.block⟩, e1.w0, e1.w1, e1.lo⟩, ((r2.1.alloc o1).alloc o2).drew, by have := r2.2.size; simp [World.drew] at this ⊢; omega, hw⟩

/-- In the second loop. -/
def L2 (w W : World) (wb gd gm n p k : Nat) (c d : Int) (A B : Nat → Int) (H : Nat → Bool) (P R : Nat → Int) (pv : Nat) : Prop :=
  E0 w W wb c d ∧ RowAt W w.heap.size 35 3 (.slice (some ⟨gd, 0, none⟩) n n) n (f3 (dl3 A B H n)) ∧
  RowAt W w.heap.size 40 3 (.slice (some ⟨gm, 0, none⟩) p p) p (f3 (mem3 (upto k P 0) (upto k R 0) (upto k (fun _ => .iface 113 (.pointer (some ⟨pv, 0, none⟩))) .nilIface) p)) ∧ gm < W.heap.size ∧ wb < gd ∧ gd < gm

theorem L2.start {w W W1 : World} {wb gd n p : Nat} {c d : Int} {A B : Nat → Int} {H : Nat → Bool} (P R : Nat → Int) (pv : Nat) (h : L1 w W wb gd n n c d A B H) (hg : W.grownBy W1 none) {gm : Nat} (hgm : gm = W.heap.size)
    (hown : W1.ownsRow w.heap.size 40 3 (.slice (some ⟨W.heap.size, 0, none⟩) p p) p (madeCells (Value.agg #[.int .i64 0, .int .u64 0, .nilIface]).cells (p * 3)).toList) (hl : gm < W1.heap.size) : L2 w W1 wb gd gm n p 0 c d A B H P R pv := by
  subst hgm
  obtain ⟨e0, r, hgl, hw⟩ := h
  rw [mem3_all] at r
  have ch := Chg.grown hg
  refine ⟨e0.kept ch (by simp), ch.row r (by simp), ?_, hl, hw, hgl⟩
  rw [mem3_none, ← made3]
  exact RowAt.own hown

theorem L2.step {w W : World} {wb gd gm n p k : Nat} {c d : Int} {A B : Nat → Int} {H : Nat → Bool} {P R : Nat → Int} {pv : Nat} (h : L2 w W wb gd gm n p k c d A B H P R pv) (hk : k < p) (o1 o2 : Obj) :
    L2 w ((((((W.setCell ⟨gm, k * 3, none⟩ (.int .i64 (P k))).setCell ⟨gm, k * 3 + 1, none⟩ (.int .u64 (R k))).setCell ⟨gm, k * 3 + 2, none⟩ (.iface 113 (.pointer (some ⟨pv, 0, none⟩)))).alloc o1).alloc o2)) wb gd gm n p (k + 1) c d A B H P R pv := by
  obtain ⟨e0, r, m, hl, hw, hd⟩ := h
  have r2 := row_set3 m k hk (P k) (R k) (.iface 113 (.pointer (some ⟨pv, 0, none⟩)))
  have e1 := ((e0.kept r2.2 (fun i hi e => by omega)).alloc o1).alloc o2
  have r1 := r2.2.row r (fun i hi e => by have := live_slice hi; omega)
  rw [mem3_upto P R (fun _ => .iface 113 (.pointer (some ⟨pv, 0, none⟩))) .nilIface p k hk] at r2
  exact ⟨e1, (r1.alloc o1).alloc o2, ((r2.1.alloc o1).alloc o2), by have := r2.2.size; simp at this ⊢; omega, hw, hd⟩

/-- Both rows stand. -/
structure Base (w W : World) (wb gd gm n p : Nat) (c d : Int) (A B : Nat → Int) (H : Nat → Bool) (P R : Nat → Int) (pv : Nat) : Prop where
  e0 : E0 w W wb c d
  dr : RowAt W w.heap.size 35 3 (.slice (some ⟨gd, 0, none⟩) n n) n (f3 (dl3 A B H n))
  mr : RowAt W w.heap.size 40 3 (.slice (some ⟨gm, 0, none⟩) p p) p (f3 (mem3 P R (fun _ => .iface 113 (.pointer (some ⟨pv, 0, none⟩))) p))
  wd : wb < gd
  dm : gd < gm
  ml : gm < W.heap.size
section
variable {w W : World} {wb gd gm n p : Nat} {c d : Int} {A B : Nat → Int} {H : Nat → Bool} {P R : Nat → Int} {pv : Nat}
theorem Base.of (h : L2 w W wb gd gm n p p c d A B H P R pv) : Base w W wb gd gm n p c d A B H P R pv := by
  obtain ⟨e0, r, m, hl, hw, hd⟩ := h
  rw [mem3_all] at m
  exact ⟨e0, r, m, hw, hd, hl⟩
theorem Base.kept {W' : World} {q : Nat → Prop} (h : Base w W wb gd gm n p c d A B H P R pv) (hc : Chg W W' q) (hq : ∀ k, k ≤ gm → ¬ q k) : Base w W' wb gd gm n p c d A B H P R pv :=
  ⟨h.e0.kept hc (fun k hk => hq k (by have := h.wd; have := h.dm; omega)), hc.row h.dr (fun i hi => hq i (by have := live_slice hi; have := h.dm; omega)), hc.row h.mr (fun i hi => hq i (by have := live_slice hi; omega)), h.wd, h.dm, Nat.lt_of_lt_of_le h.ml hc.size⟩
theorem Base.ext {W' : World} (h : Base w W wb gd gm n p c d A B H P R pv) (hc : Ext W W') : Base w W' wb gd gm n p c d A B H P R pv := h.kept hc (fun _ _ h => h)

/-- In the fourth loop: what is wanted of the dials. -/
structure L4 (w W : World) (wb gd gm n p : Nat) (c d : Int) (A B : Nat → Int) (H : Nat → Bool) (P R : Nat → Int) (pv : Nat) (at' : Int) (k bb : Nat) (s23 s24 : Value) : Prop where
  bs : Base w W wb gd gm n p c d A B H P R pv
  wr : RowAt W bb 26 2 s23 (keepL at' k).length (f2 ((keepL at' k).map fun i => (A i, B i)))
  hr : RowAt W bb 4 1 s24 (keepL at' k).length ((keepL at' k).map fun i => Value.bool (H i))
  lo : gm < bb
  hi : bb ≤ W.heap.size

variable {at' : Int} {k bb : Nat} {s23 s24 : Value}
/-- Rows of two types lie apart. -/
theorem apart {W : World} {b1 b2 : Nat} {t1 t2 : TypeId} {z1 z2 : Nat} {v1 v2 : Value} {n1 n2 : Nat} {x1 x2 : List Value} (h1 : RowAt W b1 t1 z1 v1 n1 x1) (h2 : RowAt W b2 t2 z2 v2 n2 x2) (ht : t1 ≠ t2) : ∀ i, liveB v1 = some i → liveB v2 ≠ some i := by
  intro i hi hj
  obtain ⟨_, _, c1, e1⟩ := h1.lt i hi
  obtain ⟨_, _, c2, e2⟩ := h2.lt i hj
  rw [e1] at e2
  simp only [Option.some.injEq, Obj.cells.injEq] at e2
  exact ht e2.2.1

theorem L4.start {W1 W2 : World} (at' : Int) (h : Base w W wb gd gm n p c d A B H P R pv) (hg1 : W.grownBy W1 none) (hg2 : W1.grownBy W2 none) {m1 m2 : Nat} {b : Nat} (hb : b = W.heap.size)
    (h1 : W1.ownsRow b 26 2 (.slice (some ⟨W.heap.size, 0, none⟩) 0 m1) 0 []) (h2 : W2.ownsRow b 4 1 (.slice (some ⟨W1.heap.size, 0, none⟩) 0 m2) 0 []) :
    L4 w W2 wb gd gm n p c d A B H P R pv at' 0 b (.slice (some ⟨W.heap.size, 0, none⟩) 0 m1) (.slice (some ⟨W1.heap.size, 0, none⟩) 0 m2) := by
  subst hb
  have c1 := Chg.grown hg1
  have c2 := Chg.grown hg2
  exact ⟨(h.kept c1 (by simp)).kept c2 (by simp), c2.row (RowAt.own h1) (by simp), RowAt.own h2, h.ml, by have := c1.size; have := c2.size; omega⟩

theorem L4.ext {W' : World} (h : L4 w W wb gd gm n p c d A B H P R pv at' k bb s23 s24) (e : Ext W W') : L4 w W' wb gd gm n p c d A B H P R pv at' k bb s23 s24 :=
  ⟨h.bs.ext e, e.row h.wr (fun _ _ h => h), e.row h.hr (fun _ _ h => h), h.lo, Nat.le_trans h.hi e.size⟩

/-- The second row, behind the first's append. -/
theorem L4.mid {W1 W2 : World} (h : L4 w W wb gd gm n p c d A B H P R pv at' k bb s23 s24) (e1 : Ext W W1) (g1 : W1.grownBy W2 (liveB s23)) : RowAt W2 bb 4 1 s24 (keepL at' k).length ((keepL at' k).map fun i => Value.bool (H i)) := by
  have h1 := h.ext e1
  exact (Chg.grown g1).row h1.hr (fun i hi e => apart h1.wr h1.hr (by decide) i e hi)

theorem L4.hit {W1 W2 W3 W4 : World} {v1 v2 : Value} (h : L4 w W wb gd gm n p c d A B H P R pv at' k bb s23 s24) (hk : ((k : Int) != at') = true) (e1 : Ext W W1) (g1 : W1.grownBy W2 (liveB s23))
    (r1 : RowAt W2 bb 26 2 v1 ((keepL at' k).length + 1) (f2 ((keepL at' k).map fun i => (A i, B i)) ++ [.int .i64 (A k), .int .u64 (B k)])) (e2 : Ext W2 W3) (g2 : W3.grownBy W4 (liveB s24))
    (r2 : RowAt W4 bb 4 1 v2 ((keepL at' k).length + 1) (((keepL at' k).map fun i => Value.bool (H i)) ++ [.bool (H k)])) : L4 w W4 wb gd gm n p c d A B H P R pv at' (k + 1) bb v1 v2 := by
  have m := h.mid e1 g1
  have h1 := h.ext e1
  have c1 := Chg.grown g1
  have c2 := Chg.grown g2
  have b2 := h1.bs.kept c1 (fun i hi e => by have := (h1.wr.lt i e).1; have := h.lo; omega)
  have b3 := b2.ext e2
  have m3 := e2.row m (fun _ _ h => h)
  have b4 := b3.kept c2 (fun i hi e => by have := (m3.lt i e).1; have := h.lo; omega)
  have r3 := e2.row r1 (fun _ _ h => h)
  refine ⟨b4, ?_, ?_, h.lo, by have := c1.size; have := c2.size; have := e2.size; have := h1.hi; omega⟩
  · rw [keepL_hit hk, List.map_append, f2_append, List.length_append]
    exact c2.row r3 (fun i hi e => apart r3 m3 (by decide) i hi e)
  · rw [keepL_hit hk, List.map_append, List.length_append]
    exact r2
theorem L4.miss (h : L4 w W wb gd gm n p c d A B H P R pv at' k bb s23 s24) (hk : ((k : Int) != at') = false) : L4 w W wb gd gm n p c d A B H P R pv at' (k + 1) bb s23 s24 := by
  refine ⟨h.bs, ?_, ?_, h.lo, h.hi⟩
  · rw [keepL_miss hk]; exact h.wr
  · rw [keepL_miss hk]; exact h.hr

/-- In the sixth loop: what is wanted of the members. -/
structure L6 (w W : World) (wb gd gm n p : Nat) (c d : Int) (A B : Nat → Int) (H : Nat → Bool) (P R : Nat → Int) (pv : Nat) (at' : Int) (bb : Nat) (s23 s24 : Value) (b2 : Nat) (s29 : Value) (l : List (Int × Int)) : Prop where
  l4 : L4 w W wb gd gm n p c d A B H P R pv at' n bb s23 s24
  mr : RowAt W b2 26 2 s29 l.length (f2 l)
  le : bb ≤ b2
  hi : b2 ≤ W.heap.size
  a1 : ∀ i, liveB s23 = some i → i < b2
  a2 : ∀ i, liveB s24 = some i → i < b2
variable {b2 : Nat} {s29 : Value} {l : List (Int × Int)}
theorem L6.start {W1 : World} (h : L4 w W wb gd gm n p c d A B H P R pv at' n bb s23 s24) (hg1 : W.grownBy W1 none) {m1 : Nat} {b : Nat} (hb : b = W.heap.size)
    (h1 : W1.ownsRow b 26 2 (.slice (some ⟨W.heap.size, 0, none⟩) 0 m1) 0 []) : L6 w W1 wb gd gm n p c d A B H P R pv at' bb s23 s24 b (.slice (some ⟨W.heap.size, 0, none⟩) 0 m1) [] := by
  subst hb
  have c1 := Chg.grown hg1
  have e1 : Ext W W1 := c1.widen (by simp)
  exact ⟨h.ext e1, RowAt.own h1, h.hi, c1.size, fun i hi => (h.wr.lt i hi).2.1, fun i hi => (h.hr.lt i hi).2.1⟩
theorem L6.ext {W' : World} (h : L6 w W wb gd gm n p c d A B H P R pv at' bb s23 s24 b2 s29 l) (e : Ext W W') : L6 w W' wb gd gm n p c d A B H P R pv at' bb s23 s24 b2 s29 l :=
  ⟨h.l4.ext e, e.row h.mr (fun _ _ h => h), h.le, Nat.le_trans h.hi e.size, h.a1, h.a2⟩
theorem L6.push {W1 W2 : World} {v1 : Value} {x : Int × Int} (h : L6 w W wb gd gm n p c d A B H P R pv at' bb s23 s24 b2 s29 l) (e1 : Ext W W1) (g1 : W1.grownBy W2 (liveB s29))
    (r1 : RowAt W2 b2 26 2 v1 (l.length + 1) (f2 l ++ [.int .i64 x.1, .int .u64 x.2])) : L6 w W2 wb gd gm n p c d A B H P R pv at' bb s23 s24 b2 v1 (l ++ [x]) := by
  have h1 := h.ext e1
  have c1 := Chg.grown g1
  have far : ∀ i, liveB s29 = some i → b2 ≤ i := fun i hi => (h1.mr.lt i hi).1
  refine ⟨⟨h1.l4.bs.kept c1 (fun i hi e => by have := far i e; have := h.le; have := h.l4.lo; omega), c1.row h1.l4.wr (fun i hi e => by have := far i e; have := h.a1 i hi; omega), c1.row h1.l4.hr (fun i hi e => by have := far i e; have := h.a2 i hi; omega), h.l4.lo, Nat.le_trans h1.l4.hi c1.size⟩, ?_, h.le, Nat.le_trans h1.hi c1.size, h.a1, h.a2⟩
  rw [f2_append, List.length_append]
  exact r1
theorem L6.cut {g off cap m : Nat} (h : L6 w W wb gd gm n p c d A B H P R pv at' bb s23 s24 b2 (.slice (some ⟨g, off, none⟩) (m + 1) cap) l) (hm : l.length = m + 1) (ao : Option Addr) (hao : ao = if cap = 1 then some ⟨g, off, none⟩ else some ⟨g, off + 2, none⟩) :
    L6 w W wb gd gm n p c d A B H P R pv at' bb s23 s24 b2 (.slice ao m (cap - 1)) (l.drop 1) := by
  refine ⟨h.l4, ?_, h.le, h.hi, h.a1, h.a2⟩
  have := h.mr
  rw [hm] at this
  rw [f2_drop1, List.length_drop, hm]
  exact this.tail ao hao
end

theorem keep_at (W : World) (C : Array Value) (t : TypeId) (o : Obj) (n i : Nat) (h : n = W.heap.size) : (((W.alloc (.cells C t)).alloc o).drew).cell? ⟨n, i, none⟩ = C[i]? := by
  subst h
  show ((W.alloc (.cells C t)).alloc o).cell? _ = _
  rw [World.cell?_alloc_lt _ _ _ (by simp)]
  exact World.cell?_alloc_new _ _ _ _
end Go.Proofs.Ybulkbiqo
