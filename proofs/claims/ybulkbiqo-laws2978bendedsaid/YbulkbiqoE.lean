/-
  linkingEnded.
-/
import Derived.Test.YbulkbiqoD
namespace Go.Proofs.Ybulkbiqo
open Go Go.RowKit Go.MuLone

theorem firstAt_range (A B : Nat → Int) (c d : Int) : ∀ (m i : Nat), firstAt A B c d i m = -1 ∨ ∃ k, i ≤ k ∧ k < i + m ∧ firstAt A B c d i m = (k : Int)
  | 0, i => .inl rfl
  | m + 1, i => by
    unfold firstAt
    split
    · exact .inr ⟨i, Nat.le_refl _, by omega, rfl⟩
    · rcases firstAt_range A B c d m (i + 1) with h | ⟨k, h1, h2, h3⟩
      · exact .inl h
      · exact .inr ⟨k, by omega, by omega, h3⟩

/-- Was the dial to the member heard from? -/
def heardAt (H : Nat → Bool) (at' : Int) : Bool := if 0 ≤ at' then H at'.toNat else false
/-- The list without the element at the place. -/
def dropAt {α : Type} (l : List α) (at' : Int) : List α := if 0 ≤ at' then l.take at'.toNat ++ l.drop (at'.toNat + 1) else l

def dl3 (A B : Nat → Int) (H : Nat → Bool) (n : Nat) : List (Int × Int × Value) := mem3 A B (fun i => .bool (H i)) n
theorem dl3_len (A B : Nat → Int) (H : Nat → Bool) (n : Nat) : (dl3 A B H n).length = n := by simp [dl3, mem3]
theorem dl3_one (A B : Nat → Int) (H : Nat → Bool) (n : Nat) : One (dl3 A B H n) := by
  intro x hx
  simp only [dl3, mem3, List.mem_map] at hx
  obtain ⟨i, _, rfl⟩ := hx
  rfl

/-- What stands ahead of the call. -/
structure LPre (w : World) (T base gd n gm p : Nat) (A B : Nat → Int) (H : Nat → Bool) (P R : Nat → Int) (X : Nat → Value) : Prop where
  tb : TB w T 0 (.slice (some ⟨gd, 0, none⟩) n n) (.slice (some ⟨gm, 0, none⟩) p p)
  dr : RowAt w base 35 3 (.slice (some ⟨gd, 0, none⟩) n n) n (f3 (dl3 A B H n))
  mr : RowAt w base 40 3 (.slice (some ⟨gm, 0, none⟩) p p) p (f3 (mem3 P R X p))
  ifc : Ifc X
  n1 : n ≤ 1024
  p1 : p ≤ 1024
  dT : gd ≠ T
  mT : gm ≠ T
  dm : gd ≠ gm
  bs : base ≤ w.heap.size
  gl : gd < w.heap.size ∧ gm < w.heap.size

/-- What stands behind it. -/
def LPost (w w' : World) (T base gd gm : Nat) (dl ml : List (Int × Int × Value)) : Prop :=
  ∃ dv mv, TB w' T 0 dv mv ∧ RowAt w' base 35 3 dv dl.length (f3 dl) ∧ RowAt w' base 40 3 mv ml.length (f3 ml) ∧ Chg w w' (fun k => k = T ∨ k = gd ∨ k = gm)

theorem ext_box (w : World) (o : Obj) : Chg w (w.alloc o) (fun _ => False) := Chg.alloc w o

/-- A dial's mark, as the walk reads it. -/
theorem heard_cell {w : World} {base g n k : Nat} {A B : Nat → Int} {H : Nat → Bool} (h : RowAt w base 35 3 (.slice (some ⟨g, 0, none⟩) n n) n (f3 (dl3 A B H n))) (hk : k < n) : w.cell? ⟨g, k * 3 + 2, none⟩ = some (.bool (H k)) := by
  have := (row_cells (P := A) (R := B) (X := fun i => .bool (H i)) h k hk).2.2
  rwa [Nat.zero_add] at this

/-- Behind the deletion: the store of the shorter slice. -/
theorem after_del {w w2 w3 : World} {T base gd n gm p k : Nat} {A B : Nat → Int} {H : Nat → Bool} {P R : Nat → Int} {X : Nat → Value} (L : LPre w T base gd n gm p A B H P R X) (e1 : Ext w w2) (hk : k < n)
    (hr : RowAt w3 base 35 3 (.slice (some ⟨gd, 0, none⟩) (n - 1) n) (n - 1) (f3 ((dl3 A B H n).take k ++ (dl3 A B H n).drop (k + 1)))) (hc : Chg w2 w3 (fun i => i = gd)) :
    TB w3 T 0 (.slice (some ⟨gd, 0, none⟩) n n) (.slice (some ⟨gm, 0, none⟩) p p) ∧
    TB (w3.setCell ⟨T, 33, none⟩ (.slice (some ⟨gd, 0, none⟩) (n - 1) n)) T 0 (.slice (some ⟨gd, 0, none⟩) (n - 1) n) (.slice (some ⟨gm, 0, none⟩) p p) ∧
    RowAt (w3.setCell ⟨T, 33, none⟩ (.slice (some ⟨gd, 0, none⟩) (n - 1) n)) base 35 3 (.slice (some ⟨gd, 0, none⟩) (n - 1) n) (dropAt (dl3 A B H n) (k : Int)).length (f3 (dropAt (dl3 A B H n) (k : Int))) ∧
    RowAt (w3.setCell ⟨T, 33, none⟩ (.slice (some ⟨gd, 0, none⟩) (n - 1) n)) base 40 3 (.slice (some ⟨gm, 0, none⟩) p p) p (f3 (mem3 P R X p)) ∧
    Chg w (w3.setCell ⟨T, 33, none⟩ (.slice (some ⟨gd, 0, none⟩) (n - 1) n)) (fun i => i = T ∨ i = gd ∨ i = gm) := by
  have t3 : TB w3 T 0 (.slice (some ⟨gd, 0, none⟩) n n) (.slice (some ⟨gm, 0, none⟩) p p) := (L.tb.kept e1 id).kept hc (fun e => L.dT e.symm)
  have hlv : liveB (.slice (some ⟨gd, 0, none⟩) (n - 1) n) ≠ some T := t3.ne hr (by decide)
  have hlm : ∀ i, liveB (.slice (some ⟨gm, 0, none⟩) p p) = some i → i = gm := by
    intro i hi
    cases p with
    | zero => simp [liveB] at hi
    | succ p => simpa [liveB] using hi.symm
  have m3 : RowAt w3 base 40 3 (.slice (some ⟨gm, 0, none⟩) p p) p (f3 (mem3 P R X p)) := hc.row (e1.row L.mr (fun _ _ h => h)) (fun i hi e => L.dm (by rw [← hlm i hi, e]))
  have hd : dropAt (dl3 A B H n) (k : Int) = (dl3 A B H n).take k ++ (dl3 A B H n).drop (k + 1) := by simp [dropAt]
  have hdl : (dropAt (dl3 A B H n) (k : Int)).length = n - 1 := by rw [hd]; simp [dl3_len]; omega
  refine ⟨t3, t3.setD _, ?_, m3.setCell_other (fun h => L.mT (hlm T h).symm), ?_⟩
  · rw [hdl, hd]; exact hr.setCell_other hlv
  · exact ((e1.widen (fun _ h => h.elim)).trans hc (fun _ _ h => .inr (.inl h))).trans (Chg.setCell _ _ _) (fun _ _ h => .inl h)

theorem before_del {w w2 : World} {T base gd n gm p : Nat} {A B : Nat → Int} {H : Nat → Bool} {P R : Nat → Int} {X : Nat → Value} (L : LPre w T base gd n gm p A B H P R X) (e1 : Ext w w2) :
    TB w2 T 0 (.slice (some ⟨gd, 0, none⟩) n n) (.slice (some ⟨gm, 0, none⟩) p p) ∧ RowAt w2 base 35 3 (.slice (some ⟨gd, 0, none⟩) n n) n (f3 (dl3 A B H n)) ∧
    RowAt w2 base 40 3 (.slice (some ⟨gm, 0, none⟩) p p) p (f3 (mem3 P R X p)) ∧ Chg w w2 (fun i => i = T ∨ i = gd ∨ i = gm) :=
  ⟨L.tb.kept e1 id, e1.row L.dr (fun _ _ h => h), e1.row L.mr (fun _ _ h => h), e1.widen (fun _ h => h.elim)⟩

theorem link_un_nil {w : World} {T base gd n gm p : Nat} {A B : Nat → Int} {H : Nat → Bool} {P R : Nat → Int} {X : Nat → Value} (L : LPre w T base gd n gm p A B H P R X) (c d : Int) (hat : firstAt A B c d 0 n = -1) :
    Calls Yba.prog 6 #[.pointer (some ⟨T, 0, none⟩), .agg #[.int .i64 c, .int .u64 d], .nilIface] w fun e w' => e = .returned (.tuple #[]) ∧ LPost w w' T base gd gm (dropAt (dl3 A B H n) (-1)) (mem3 P R X p) := by
  have HL : Hid (LPre w T base gd n gm p A B H P R X) := L
  have hn1 := L.n1
  have hTl := L.tb.lt
  have hT' : Hid (firstAt A B c d 0 n = -1) := hat
  clear L hat
  go_enter Yba.func6, Yba.ntmps6
  go_wp2_with fail
  have e0 : Ext w (w.alloc (.cells #[.int .i64 c, .int .u64 d] 26)) := Chg.alloc w _
  refine (dialOf7 T gd 0 n n A B H c d _ hn1 (e0.cell HL.out.tb.d id) (fun i hi => by have := row_cells (P := A) (R := B) (X := fun i => .bool (H i)) HL.out.dr i hi; exact ⟨e0.cell this.1 id, e0.cell this.2.1 id, e0.cell this.2.2 id⟩)).mono ?_
  rintro e w2 ⟨rfl, e2⟩
  rw [hT'.out]
  have x0 : w2.cell? ⟨w.heap.size, 0, none⟩ = some (.int .i64 c) := e2.cell (by simp) id
  have x1 : w2.cell? ⟨w.heap.size, 1, none⟩ = some (.int .u64 d) := e2.cell (by simp) id
  have E : Ext w w2 := e0.trans e2
  have HE : Hid (Ext w w2) := E
  clear e0 e2 E
  have b2 := before_del HL.out HE.out
  have s2 : w.heap.size < w2.heap.size := World.block_lt_of_cell? _ _ x0
  have HP : Hid (TB w2 T 0 (.slice (some ⟨gd, 0, none⟩) n n) (.slice (some ⟨gm, 0, none⟩) p p) ∧ RowAt w2 base 35 3 (.slice (some ⟨gd, 0, none⟩) n n) (dropAt (dl3 A B H n) (-1)).length (f3 (dropAt (dl3 A B H n) (-1))) ∧ RowAt w2 base 40 3 (.slice (some ⟨gm, 0, none⟩) p p) p (f3 (mem3 P R X p)) ∧ Chg w w2 (fun i => i = T ∨ i = gd ∨ i = gm)) := by
    have hd : dropAt (dl3 A B H n) (-1) = dl3 A B H n := by simp [dropAt]
    rw [hd, dl3_len]; exact b2
  clear b2
  go_wp2
  go_end0
  have hp : (mem3 P R X p).length = p := by simp [mem3]
  exact ⟨rfl, _, _, HP.out.1, HP.out.2.1, by rw [hp]; exact HP.out.2.2.1, HP.out.2.2.2⟩

theorem link_un_no {w : World} {T base gd n gm p : Nat} {A B : Nat → Int} {H : Nat → Bool} {P R : Nat → Int} {X : Nat → Value} (L : LPre w T base gd n gm p A B H P R X) (c d : Int) (te : TypeId) (ye : Value) (hat : firstAt A B c d 0 n = -1) (hf : 0 ≤ firstAt P R c d 0 p) :
    Calls Yba.prog 6 #[.pointer (some ⟨T, 0, none⟩), .agg #[.int .i64 c, .int .u64 d], .iface te ye] w fun e w' => e = .returned (.tuple #[]) ∧ LPost w w' T base gd gm (dropAt (dl3 A B H n) (-1)) (mem3 P R X p) := by
  have HL : Hid (LPre w T base gd n gm p A B H P R X) := L
  have hn1 := L.n1
  have hTl := L.tb.lt
  have hT' : Hid (firstAt A B c d 0 n = -1) := hat
  have HF : Hid (0 ≤ firstAt P R c d 0 p) := hf
  clear L hat hf
  go_enter Yba.func6, Yba.ntmps6
  go_wp2_with fail
  have e0 : Ext w (w.alloc (.cells #[.int .i64 c, .int .u64 d] 26)) := Chg.alloc w _
  refine (dialOf7 T gd 0 n n A B H c d _ hn1 (e0.cell HL.out.tb.d id) (fun i hi => by have := row_cells (P := A) (R := B) (X := fun i => .bool (H i)) HL.out.dr i hi; exact ⟨e0.cell this.1 id, e0.cell this.2.1 id, e0.cell this.2.2 id⟩)).mono ?_
  rintro e w2 ⟨rfl, e2⟩
  rw [hT'.out]
  have x0 : w2.cell? ⟨w.heap.size, 0, none⟩ = some (.int .i64 c) := e2.cell (by simp) id
  have x1 : w2.cell? ⟨w.heap.size, 1, none⟩ = some (.int .u64 d) := e2.cell (by simp) id
  have E : Ext w w2 := e0.trans e2
  have HE : Hid (Ext w w2) := E
  clear e0 e2 E
  have b2 := before_del HL.out HE.out
  have s2 : w.heap.size < w2.heap.size := World.block_lt_of_cell? _ _ x0
  have HP : Hid (TB w2 T 0 (.slice (some ⟨gd, 0, none⟩) n n) (.slice (some ⟨gm, 0, none⟩) p p) ∧ RowAt w2 base 35 3 (.slice (some ⟨gd, 0, none⟩) n n) (dropAt (dl3 A B H n) (-1)).length (f3 (dropAt (dl3 A B H n) (-1))) ∧ RowAt w2 base 40 3 (.slice (some ⟨gm, 0, none⟩) p p) p (f3 (mem3 P R X p)) ∧ Chg w w2 (fun i => i = T ∨ i = gd ∨ i = gm)) := by
    have hd : dropAt (dl3 A B H n) (-1) = dl3 A B H n := by simp [dropAt]
    rw [hd, dl3_len]; exact b2
  clear b2
  go_wp2_with fail
  have HA : Hid (TB w2 T 0 (.slice (some ⟨gd, 0, none⟩) n n) (.slice (some ⟨gm, 0, none⟩) p p)) := HP.out.1
  have hp : (mem3 P R X p).length = p := by simp [mem3]
  have hlT : liveB (.slice (some ⟨gd, 0, none⟩) n n) ≠ some T := HP.out.1.ne HP.out.2.1 (by decide)
  have hlm : liveB (.slice (some ⟨gm, 0, none⟩) p p) ≠ some T := HP.out.1.ne HP.out.2.2.1 (by decide)
  have HL2 : Hid (liveB (.slice (some ⟨gd, 0, none⟩) n n) ≠ some T ∧ liveB (.slice (some ⟨gm, 0, none⟩) p p) ≠ some T ∧ (mem3 P R X p).length = p) := ⟨hlT, hlm, hp⟩
  clear hlT hlm hp
  refine (mark_no (base := base) (P := P) (R := R) HL.out.ifc c d 108 _ (HA.out.kept (Chg.alloc w2 _) id) (HP.out.2.2.1.alloc _) HL.out.p1 HF.out).mono ?_
  rintro e w5 ⟨rfl, h5, c5⟩
  have fin : LPost w w5 T base gd gm (dropAt (dl3 A B H n) (-1)) (mem3 P R X p) := by
    refine ⟨_, _, h5, c5.row (HP.out.2.1.alloc _) (fun k hk e => HL2.out.1 (by rw [hk, e])), ?_, (HP.out.2.2.2.trans (Chg.alloc _ _) (fun _ _ h => h.elim)).trans c5 (fun _ _ h => .inl h)⟩
    rw [HL2.out.2.2]; exact c5.row (HP.out.2.2.1.alloc _) (fun k hk e => HL2.out.2.1 (by rw [hk, e]))
  clear h5 c5
  go_wp2
  go_end0
  exact ⟨rfl, fin⟩

theorem link_un_yes {w : World} {T base gd n gm p : Nat} {A B : Nat → Int} {H : Nat → Bool} {P R : Nat → Int} {X : Nat → Value} (L : LPre w T base gd n gm p A B H P R X) (c d : Int) (te : TypeId) (ye : Value) (hat : firstAt A B c d 0 n = -1) (hf : firstAt P R c d 0 p < 0) :
    Calls Yba.prog 6 #[.pointer (some ⟨T, 0, none⟩), .agg #[.int .i64 c, .int .u64 d], .iface te ye] w fun e w' => e = .returned (.tuple #[]) ∧ ∃ ub : Nat, w.heap.size ≤ ub ∧ w'.cell? ⟨ub, 0, none⟩ = some (.iface te ye) ∧ LPost w w' T base gd gm (dropAt (dl3 A B H n) (-1)) (remembered (mem3 P R X p) (c, d, .iface 108 (.pointer (some ⟨ub, 0, none⟩)))) := by
  have HL : Hid (LPre w T base gd n gm p A B H P R X) := L
  have hn1 := L.n1
  have hTl := L.tb.lt
  have hT' : Hid (firstAt A B c d 0 n = -1) := hat
  have HF : Hid (firstAt P R c d 0 p < 0) := hf
  clear L hat hf
  go_enter Yba.func6, Yba.ntmps6
  go_wp2_with fail
  have e0 : Ext w (w.alloc (.cells #[.int .i64 c, .int .u64 d] 26)) := Chg.alloc w _
  refine (dialOf7 T gd 0 n n A B H c d _ hn1 (e0.cell HL.out.tb.d id) (fun i hi => by have := row_cells (P := A) (R := B) (X := fun i => .bool (H i)) HL.out.dr i hi; exact ⟨e0.cell this.1 id, e0.cell this.2.1 id, e0.cell this.2.2 id⟩)).mono ?_
  rintro e w2 ⟨rfl, e2⟩
  rw [hT'.out]
  have x0 : w2.cell? ⟨w.heap.size, 0, none⟩ = some (.int .i64 c) := e2.cell (by simp) id
  have x1 : w2.cell? ⟨w.heap.size, 1, none⟩ = some (.int .u64 d) := e2.cell (by simp) id
  have E : Ext w w2 := e0.trans e2
  have HE : Hid (Ext w w2) := E
  clear e0 e2 E
  have b2 := before_del HL.out HE.out
  have s2 : w.heap.size < w2.heap.size := World.block_lt_of_cell? _ _ x0
  have HP : Hid (TB w2 T 0 (.slice (some ⟨gd, 0, none⟩) n n) (.slice (some ⟨gm, 0, none⟩) p p) ∧ RowAt w2 base 35 3 (.slice (some ⟨gd, 0, none⟩) n n) (dropAt (dl3 A B H n) (-1)).length (f3 (dropAt (dl3 A B H n) (-1))) ∧ RowAt w2 base 40 3 (.slice (some ⟨gm, 0, none⟩) p p) p (f3 (mem3 P R X p)) ∧ Chg w w2 (fun i => i = T ∨ i = gd ∨ i = gm)) := by
    have hd : dropAt (dl3 A B H n) (-1) = dl3 A B H n := by simp [dropAt]
    rw [hd, dl3_len]; exact b2
  clear b2
  go_wp2_with fail
  have HA : Hid (TB w2 T 0 (.slice (some ⟨gd, 0, none⟩) n n) (.slice (some ⟨gm, 0, none⟩) p p)) := HP.out.1
  have hp : (mem3 P R X p).length = p := by simp [mem3]
  have hlT : liveB (.slice (some ⟨gd, 0, none⟩) n n) ≠ some T := HP.out.1.ne HP.out.2.1 (by decide)
  have hlm : liveB (.slice (some ⟨gm, 0, none⟩) p p) ≠ some T := HP.out.1.ne HP.out.2.2.1 (by decide)
  have HL2 : Hid (liveB (.slice (some ⟨gd, 0, none⟩) n n) ≠ some T ∧ liveB (.slice (some ⟨gm, 0, none⟩) p p) ≠ some T ∧ (mem3 P R X p).length = p) := ⟨hlT, hlm, hp⟩
  clear hlT hlm hp
  refine (mark_yes (base := base) (P := P) (R := R) HL.out.ifc c d 108 _ (HA.out.kept (Chg.alloc w2 _) id) (HP.out.2.2.1.alloc _) HL.out.p1 (by have := HL.out.bs; simp; omega) HF.out HL.out.mT).mono ?_
  rintro e w5 ⟨rfl, mv', m, hm, h5, r5, c5⟩
  have hgm : gm < w.heap.size := HL.out.gl.2
  have hgd : gd < w.heap.size := HL.out.gl.1
  have fin : ∃ ub : Nat, w.heap.size ≤ ub ∧ w5.cell? ⟨ub, 0, none⟩ = some (.iface te ye) ∧ LPost w w5 T base gd gm (dropAt (dl3 A B H n) (-1)) (remembered (mem3 P R X p) (c, d, .iface 108 (.pointer (some ⟨ub, 0, none⟩)))) := by
    refine ⟨w2.heap.size, by omega, c5.cell (by simp) (by show ¬ (w2.heap.size = T ∨ w2.heap.size = gm); omega), _, mv', h5, c5.row (HP.out.2.1.alloc _) ?_, ?_, (HP.out.2.2.2.trans (Chg.alloc _ _) (fun _ _ h => h.elim)).trans c5 (fun _ _ h => h.elim .inl (fun h => .inr (.inr h)))⟩
    · intro k hk e
      rcases e with e | e
      · exact HL2.out.1 (by rw [hk, e])
      · have : k = gd := by
          revert hk; cases n with
          | zero => intro hk; simp [liveB] at hk
          | succ n => intro hk; simpa [liveB] using hk.symm
        exact HL.out.dm (by rw [← this, e])
    · rw [← hm]; exact r5
  clear h5 c5 r5 hm
  go_wp2
  go_end0
  exact ⟨rfl, fin⟩

theorem link_at_nil {w : World} {T base gd n gm p : Nat} {A B : Nat → Int} {H : Nat → Bool} {P R : Nat → Int} {X : Nat → Value} (L : LPre w T base gd n gm p A B H P R X) (c d : Int) (k : Nat) (hk : k < n) (hat : firstAt A B c d 0 n = (k : Int)) :
    Calls Yba.prog 6 #[.pointer (some ⟨T, 0, none⟩), .agg #[.int .i64 c, .int .u64 d], .nilIface] w fun e w' => e = .returned (.tuple #[]) ∧ LPost w w' T base gd gm (dropAt (dl3 A B H n) (k : Int)) (mem3 P R X p) := by
  have HL : Hid (LPre w T base gd n gm p A B H P R X) := L
  have hn1 := L.n1
  have hTl := L.tb.lt
  have hT' : Hid (firstAt A B c d 0 n = (k : Int)) := hat
  clear L hat
  go_enter Yba.func6, Yba.ntmps6
  go_wp2_with fail
  have e0 : Ext w (w.alloc (.cells #[.int .i64 c, .int .u64 d] 26)) := Chg.alloc w _
  refine (dialOf7 T gd 0 n n A B H c d _ hn1 (e0.cell HL.out.tb.d id) (fun i hi => by have := row_cells (P := A) (R := B) (X := fun i => .bool (H i)) HL.out.dr i hi; exact ⟨e0.cell this.1 id, e0.cell this.2.1 id, e0.cell this.2.2 id⟩)).mono ?_
  rintro e w2 ⟨rfl, e2⟩
  rw [hT'.out]
  have x0 : w2.cell? ⟨w.heap.size, 0, none⟩ = some (.int .i64 c) := e2.cell (by simp) id
  have x1 : w2.cell? ⟨w.heap.size, 1, none⟩ = some (.int .u64 d) := e2.cell (by simp) id
  have E : Ext w w2 := e0.trans e2
  have HE : Hid (Ext w w2) := E
  clear e0 e2 E
  have b2 := before_del HL.out HE.out
  have s2 : w.heap.size < w2.heap.size := World.block_lt_of_cell? _ _ x0
  have hd2 := b2.1.d
  have hh2 := heard_cell b2.2.1 hk
  have i1 : (k : Int) < (n : Int) := by omega
  have HB : Hid (RowAt w2 base 35 3 (.slice (some ⟨gd, 0, none⟩) n n) n (f3 (dl3 A B H n))) := b2.2.1
  clear b2
  go_wp2_with fail
  refine (delD HB.out (dl3_one A B H n) hn1 hk).mono ?_
  rintro e w3 ⟨rfl, hr3, hc3⟩
  obtain ⟨t3, t4, r4, m4, c4⟩ := after_del HL.out HE.out hk hr3 hc3
  have hd3 := t3.d
  have hf3 := t3.fz 33
  have hgd := HB.out.lt gd (by cases n with | zero => omega | succ n => rfl)
  have y0 : w3.cell? ⟨w.heap.size, 0, none⟩ = some (.int .i64 c) := hc3.cell x0 (by show ¬ w.heap.size = gd; have hq := HL.out.dr.lt gd (by cases n with | zero => omega | succ n => rfl); omega)
  have y1 : w3.cell? ⟨w.heap.size, 1, none⟩ = some (.int .u64 d) := hc3.cell x1 (by show ¬ w.heap.size = gd; have hq := HL.out.dr.lt gd (by cases n with | zero => omega | succ n => rfl); omega)
  obtain ⟨W, hW⟩ : ∃ W, W = w3.setCell ⟨T, 33, none⟩ (.slice (some ⟨gd, 0, none⟩) (n - 1) n) := ⟨_, rfl⟩
  have HP : Hid (TB W T 0 (.slice (some ⟨gd, 0, none⟩) (n - 1) n) (.slice (some ⟨gm, 0, none⟩) p p) ∧ RowAt W base 35 3 (.slice (some ⟨gd, 0, none⟩) (n - 1) n) (dropAt (dl3 A B H n) (k : Int)).length (f3 (dropAt (dl3 A B H n) (k : Int))) ∧ RowAt W base 40 3 (.slice (some ⟨gm, 0, none⟩) p p) p (f3 (mem3 P R X p)) ∧ Chg w W (fun i => i = T ∨ i = gd ∨ i = gm)) := by rw [hW]; exact ⟨t4, r4, m4, c4⟩
  have HW : Hid (W = w3.setCell ⟨T, 33, none⟩ (.slice (some ⟨gd, 0, none⟩) (n - 1) n)) := hW
  have sW : w.heap.size < W.heap.size := by have := hc3.size; rw [hW]; simp [World.setCell]; omega
  have z0 : W.cell? ⟨w.heap.size, 0, none⟩ = some (.int .i64 c) := by rw [hW]; exact (Chg.setCell w3 ⟨T, 33, none⟩ _).cell y0 (by show ¬ w.heap.size = T; omega)
  have z1 : W.cell? ⟨w.heap.size, 1, none⟩ = some (.int .u64 d) := by rw [hW]; exact (Chg.setCell w3 ⟨T, 33, none⟩ _).cell y1 (by show ¬ w.heap.size = T; omega)
  clear hr3 hc3 t3 t4 r4 m4 c4 HB hh2 hd2 x0 x1 hgd hW
  go_wp2
  rw [← HW.out]
  go_end0
  have hp : (mem3 P R X p).length = p := by simp [mem3]
  exact ⟨rfl, _, _, HP.out.1, HP.out.2.1, by rw [hp]; exact HP.out.2.2.1, HP.out.2.2.2⟩

theorem link_at_heard {w : World} {T base gd n gm p : Nat} {A B : Nat → Int} {H : Nat → Bool} {P R : Nat → Int} {X : Nat → Value} (L : LPre w T base gd n gm p A B H P R X) (c d : Int) (te : TypeId) (ye : Value) (k : Nat) (hk : k < n) (hat : firstAt A B c d 0 n = (k : Int)) (hh : H k = true) :
    Calls Yba.prog 6 #[.pointer (some ⟨T, 0, none⟩), .agg #[.int .i64 c, .int .u64 d], .iface te ye] w fun e w' => e = .returned (.tuple #[]) ∧ LPost w w' T base gd gm (dropAt (dl3 A B H n) (k : Int)) (mem3 P R X p) := by
  have HL : Hid (LPre w T base gd n gm p A B H P R X) := L
  have hn1 := L.n1
  have hTl := L.tb.lt
  have hT' : Hid (firstAt A B c d 0 n = (k : Int)) := hat
  clear L hat
  go_enter Yba.func6, Yba.ntmps6
  go_wp2_with fail
  have e0 : Ext w (w.alloc (.cells #[.int .i64 c, .int .u64 d] 26)) := Chg.alloc w _
  refine (dialOf7 T gd 0 n n A B H c d _ hn1 (e0.cell HL.out.tb.d id) (fun i hi => by have := row_cells (P := A) (R := B) (X := fun i => .bool (H i)) HL.out.dr i hi; exact ⟨e0.cell this.1 id, e0.cell this.2.1 id, e0.cell this.2.2 id⟩)).mono ?_
  rintro e w2 ⟨rfl, e2⟩
  rw [hT'.out]
  have x0 : w2.cell? ⟨w.heap.size, 0, none⟩ = some (.int .i64 c) := e2.cell (by simp) id
  have x1 : w2.cell? ⟨w.heap.size, 1, none⟩ = some (.int .u64 d) := e2.cell (by simp) id
  have E : Ext w w2 := e0.trans e2
  have HE : Hid (Ext w w2) := E
  clear e0 e2 E
  have b2 := before_del HL.out HE.out
  have s2 : w.heap.size < w2.heap.size := World.block_lt_of_cell? _ _ x0
  have hd2 := b2.1.d
  have hh2 := heard_cell b2.2.1 hk
  rw [hh] at hh2
  have i1 : (k : Int) < (n : Int) := by omega
  have HB : Hid (RowAt w2 base 35 3 (.slice (some ⟨gd, 0, none⟩) n n) n (f3 (dl3 A B H n))) := b2.2.1
  clear b2
  go_wp2_with fail
  refine (delD HB.out (dl3_one A B H n) hn1 hk).mono ?_
  rintro e w3 ⟨rfl, hr3, hc3⟩
  obtain ⟨t3, t4, r4, m4, c4⟩ := after_del HL.out HE.out hk hr3 hc3
  have hd3 := t3.d
  have hf3 := t3.fz 33
  have hgd := HB.out.lt gd (by cases n with | zero => omega | succ n => rfl)
  have y0 : w3.cell? ⟨w.heap.size, 0, none⟩ = some (.int .i64 c) := hc3.cell x0 (by show ¬ w.heap.size = gd; have hq := HL.out.dr.lt gd (by cases n with | zero => omega | succ n => rfl); omega)
  have y1 : w3.cell? ⟨w.heap.size, 1, none⟩ = some (.int .u64 d) := hc3.cell x1 (by show ¬ w.heap.size = gd; have hq := HL.out.dr.lt gd (by cases n with | zero => omega | succ n => rfl); omega)
  obtain ⟨W, hW⟩ : ∃ W, W = w3.setCell ⟨T, 33, none⟩ (.slice (some ⟨gd, 0, none⟩) (n - 1) n) := ⟨_, rfl⟩
  have HP : Hid (TB W T 0 (.slice (some ⟨gd, 0, none⟩) (n - 1) n) (.slice (some ⟨gm, 0, none⟩) p p) ∧ RowAt W base 35 3 (.slice (some ⟨gd, 0, none⟩) (n - 1) n) (dropAt (dl3 A B H n) (k : Int)).length (f3 (dropAt (dl3 A B H n) (k : Int))) ∧ RowAt W base 40 3 (.slice (some ⟨gm, 0, none⟩) p p) p (f3 (mem3 P R X p)) ∧ Chg w W (fun i => i = T ∨ i = gd ∨ i = gm)) := by rw [hW]; exact ⟨t4, r4, m4, c4⟩
  have HW : Hid (W = w3.setCell ⟨T, 33, none⟩ (.slice (some ⟨gd, 0, none⟩) (n - 1) n)) := hW
  have sW : w.heap.size < W.heap.size := by have := hc3.size; rw [hW]; simp [World.setCell]; omega
  have z0 : W.cell? ⟨w.heap.size, 0, none⟩ = some (.int .i64 c) := by rw [hW]; exact (Chg.setCell w3 ⟨T, 33, none⟩ _).cell y0 (by show ¬ w.heap.size = T; omega)
  have z1 : W.cell? ⟨w.heap.size, 1, none⟩ = some (.int .u64 d) := by rw [hW]; exact (Chg.setCell w3 ⟨T, 33, none⟩ _).cell y1 (by show ¬ w.heap.size = T; omega)
  clear hr3 hc3 t3 t4 r4 m4 c4 HB hh2 hd2 x0 x1 hgd hW
  go_wp2
  rw [← HW.out]
  go_end0
  have hp : (mem3 P R X p).length = p := by simp [mem3]
  exact ⟨rfl, _, _, HP.out.1, HP.out.2.1, by rw [hp]; exact HP.out.2.2.1, HP.out.2.2.2⟩

theorem link_at_no {w : World} {T base gd n gm p : Nat} {A B : Nat → Int} {H : Nat → Bool} {P R : Nat → Int} {X : Nat → Value} (L : LPre w T base gd n gm p A B H P R X) (c d : Int) (te : TypeId) (ye : Value) (k : Nat) (hk : k < n) (hat : firstAt A B c d 0 n = (k : Int)) (hh : H k = false) (hf : 0 ≤ firstAt P R c d 0 p) :
    Calls Yba.prog 6 #[.pointer (some ⟨T, 0, none⟩), .agg #[.int .i64 c, .int .u64 d], .iface te ye] w fun e w' => e = .returned (.tuple #[]) ∧ LPost w w' T base gd gm (dropAt (dl3 A B H n) (k : Int)) (mem3 P R X p) := by
  have HL : Hid (LPre w T base gd n gm p A B H P R X) := L
  have hn1 := L.n1
  have hTl := L.tb.lt
  have hT' : Hid (firstAt A B c d 0 n = (k : Int)) := hat
  have HF : Hid (0 ≤ firstAt P R c d 0 p) := hf
  clear L hat hf
  go_enter Yba.func6, Yba.ntmps6
  go_wp2_with fail
  have e0 : Ext w (w.alloc (.cells #[.int .i64 c, .int .u64 d] 26)) := Chg.alloc w _
  refine (dialOf7 T gd 0 n n A B H c d _ hn1 (e0.cell HL.out.tb.d id) (fun i hi => by have := row_cells (P := A) (R := B) (X := fun i => .bool (H i)) HL.out.dr i hi; exact ⟨e0.cell this.1 id, e0.cell this.2.1 id, e0.cell this.2.2 id⟩)).mono ?_
  rintro e w2 ⟨rfl, e2⟩
  rw [hT'.out]
  have x0 : w2.cell? ⟨w.heap.size, 0, none⟩ = some (.int .i64 c) := e2.cell (by simp) id
  have x1 : w2.cell? ⟨w.heap.size, 1, none⟩ = some (.int .u64 d) := e2.cell (by simp) id
  have E : Ext w w2 := e0.trans e2
  have HE : Hid (Ext w w2) := E
  clear e0 e2 E
  have b2 := before_del HL.out HE.out
  have s2 : w.heap.size < w2.heap.size := World.block_lt_of_cell? _ _ x0
  have hd2 := b2.1.d
  have hh2 := heard_cell b2.2.1 hk
  rw [hh] at hh2
  have i1 : (k : Int) < (n : Int) := by omega
  have HB : Hid (RowAt w2 base 35 3 (.slice (some ⟨gd, 0, none⟩) n n) n (f3 (dl3 A B H n))) := b2.2.1
  clear b2
  go_wp2_with fail
  refine (delD HB.out (dl3_one A B H n) hn1 hk).mono ?_
  rintro e w3 ⟨rfl, hr3, hc3⟩
  obtain ⟨t3, t4, r4, m4, c4⟩ := after_del HL.out HE.out hk hr3 hc3
  have hd3 := t3.d
  have hf3 := t3.fz 33
  have hgd := HB.out.lt gd (by cases n with | zero => omega | succ n => rfl)
  have y0 : w3.cell? ⟨w.heap.size, 0, none⟩ = some (.int .i64 c) := hc3.cell x0 (by show ¬ w.heap.size = gd; have hq := HL.out.dr.lt gd (by cases n with | zero => omega | succ n => rfl); omega)
  have y1 : w3.cell? ⟨w.heap.size, 1, none⟩ = some (.int .u64 d) := hc3.cell x1 (by show ¬ w.heap.size = gd; have hq := HL.out.dr.lt gd (by cases n with | zero => omega | succ n => rfl); omega)
  obtain ⟨W, hW⟩ : ∃ W, W = w3.setCell ⟨T, 33, none⟩ (.slice (some ⟨gd, 0, none⟩) (n - 1) n) := ⟨_, rfl⟩
  have HP : Hid (TB W T 0 (.slice (some ⟨gd, 0, none⟩) (n - 1) n) (.slice (some ⟨gm, 0, none⟩) p p) ∧ RowAt W base 35 3 (.slice (some ⟨gd, 0, none⟩) (n - 1) n) (dropAt (dl3 A B H n) (k : Int)).length (f3 (dropAt (dl3 A B H n) (k : Int))) ∧ RowAt W base 40 3 (.slice (some ⟨gm, 0, none⟩) p p) p (f3 (mem3 P R X p)) ∧ Chg w W (fun i => i = T ∨ i = gd ∨ i = gm)) := by rw [hW]; exact ⟨t4, r4, m4, c4⟩
  have HW : Hid (W = w3.setCell ⟨T, 33, none⟩ (.slice (some ⟨gd, 0, none⟩) (n - 1) n)) := hW
  have sW : w.heap.size < W.heap.size := by have := hc3.size; rw [hW]; simp [World.setCell]; omega
  have z0 : W.cell? ⟨w.heap.size, 0, none⟩ = some (.int .i64 c) := by rw [hW]; exact (Chg.setCell w3 ⟨T, 33, none⟩ _).cell y0 (by show ¬ w.heap.size = T; omega)
  have z1 : W.cell? ⟨w.heap.size, 1, none⟩ = some (.int .u64 d) := by rw [hW]; exact (Chg.setCell w3 ⟨T, 33, none⟩ _).cell y1 (by show ¬ w.heap.size = T; omega)
  clear hr3 hc3 t3 t4 r4 m4 c4 HB hh2 hd2 x0 x1 hgd hW
  go_wp2_with fail
  rw [← HW.out]
  have HA : Hid (TB W T 0 (.slice (some ⟨gd, 0, none⟩) (n - 1) n) (.slice (some ⟨gm, 0, none⟩) p p)) := HP.out.1
  have hp : (mem3 P R X p).length = p := by simp [mem3]
  have hlT : liveB (.slice (some ⟨gd, 0, none⟩) (n - 1) n) ≠ some T := HP.out.1.ne HP.out.2.1 (by decide)
  have hlm : liveB (.slice (some ⟨gm, 0, none⟩) p p) ≠ some T := HP.out.1.ne HP.out.2.2.1 (by decide)
  have HL2 : Hid (liveB (.slice (some ⟨gd, 0, none⟩) (n - 1) n) ≠ some T ∧ liveB (.slice (some ⟨gm, 0, none⟩) p p) ≠ some T ∧ (mem3 P R X p).length = p) := ⟨hlT, hlm, hp⟩
  clear hlT hlm hp
  refine (mark_no (base := base) (P := P) (R := R) HL.out.ifc c d 108 _ (HA.out.kept (Chg.alloc W _) id) (HP.out.2.2.1.alloc _) HL.out.p1 HF.out).mono ?_
  rintro e w5 ⟨rfl, h5, c5⟩
  have fin : LPost w w5 T base gd gm (dropAt (dl3 A B H n) (k : Int)) (mem3 P R X p) := by
    refine ⟨_, _, h5, c5.row (HP.out.2.1.alloc _) (fun k hk e => HL2.out.1 (by rw [hk, e])), ?_, (HP.out.2.2.2.trans (Chg.alloc _ _) (fun _ _ h => h.elim)).trans c5 (fun _ _ h => .inl h)⟩
    rw [HL2.out.2.2]; exact c5.row (HP.out.2.2.1.alloc _) (fun k hk e => HL2.out.2.1 (by rw [hk, e]))
  clear h5 c5
  go_wp2
  go_end0
  exact ⟨rfl, fin⟩

theorem link_at_yes {w : World} {T base gd n gm p : Nat} {A B : Nat → Int} {H : Nat → Bool} {P R : Nat → Int} {X : Nat → Value} (L : LPre w T base gd n gm p A B H P R X) (c d : Int) (te : TypeId) (ye : Value) (k : Nat) (hk : k < n) (hat : firstAt A B c d 0 n = (k : Int)) (hh : H k = false) (hf : firstAt P R c d 0 p < 0) :
    Calls Yba.prog 6 #[.pointer (some ⟨T, 0, none⟩), .agg #[.int .i64 c, .int .u64 d], .iface te ye] w fun e w' => e = .returned (.tuple #[]) ∧ ∃ ub : Nat, w.heap.size ≤ ub ∧ w'.cell? ⟨ub, 0, none⟩ = some (.iface te ye) ∧ LPost w w' T base gd gm (dropAt (dl3 A B H n) (k : Int)) (remembered (mem3 P R X p) (c, d, .iface 108 (.pointer (some ⟨ub, 0, none⟩)))) := by
  have HL : Hid (LPre w T base gd n gm p A B H P R X) := L
  have hn1 := L.n1
  have hTl := L.tb.lt
  have hT' : Hid (firstAt A B c d 0 n = (k : Int)) := hat
  have HF : Hid (firstAt P R c d 0 p < 0) := hf
  clear L hat hf
  go_enter Yba.func6, Yba.ntmps6
  go_wp2_with fail
  have e0 : Ext w (w.alloc (.cells #[.int .i64 c, .int .u64 d] 26)) := Chg.alloc w _
  refine (dialOf7 T gd 0 n n A B H c d _ hn1 (e0.cell HL.out.tb.d id) (fun i hi => by have := row_cells (P := A) (R := B) (X := fun i => .bool (H i)) HL.out.dr i hi; exact ⟨e0.cell this.1 id, e0.cell this.2.1 id, e0.cell this.2.2 id⟩)).mono ?_
  rintro e w2 ⟨rfl, e2⟩
  rw [hT'.out]
  have x0 : w2.cell? ⟨w.heap.size, 0, none⟩ = some (.int .i64 c) := e2.cell (by simp) id
  have x1 : w2.cell? ⟨w.heap.size, 1, none⟩ = some (.int .u64 d) := e2.cell (by simp) id
  have E : Ext w w2 := e0.trans e2
  have HE : Hid (Ext w w2) := E
  clear e0 e2 E
  have b2 := before_del HL.out HE.out
  have s2 : w.heap.size < w2.heap.size := World.block_lt_of_cell? _ _ x0
  have hd2 := b2.1.d
  have hh2 := heard_cell b2.2.1 hk
  rw [hh] at hh2
  have i1 : (k : Int) < (n : Int) := by omega
  have HB : Hid (RowAt w2 base 35 3 (.slice (some ⟨gd, 0, none⟩) n n) n (f3 (dl3 A B H n))) := b2.2.1
  clear b2
  go_wp2_with fail
  refine (delD HB.out (dl3_one A B H n) hn1 hk).mono ?_
  rintro e w3 ⟨rfl, hr3, hc3⟩
  obtain ⟨t3, t4, r4, m4, c4⟩ := after_del HL.out HE.out hk hr3 hc3
  have hd3 := t3.d
  have hf3 := t3.fz 33
  have hgd := HB.out.lt gd (by cases n with | zero => omega | succ n => rfl)
  have y0 : w3.cell? ⟨w.heap.size, 0, none⟩ = some (.int .i64 c) := hc3.cell x0 (by show ¬ w.heap.size = gd; have hq := HL.out.dr.lt gd (by cases n with | zero => omega | succ n => rfl); omega)
  have y1 : w3.cell? ⟨w.heap.size, 1, none⟩ = some (.int .u64 d) := hc3.cell x1 (by show ¬ w.heap.size = gd; have hq := HL.out.dr.lt gd (by cases n with | zero => omega | succ n => rfl); omega)
  obtain ⟨W, hW⟩ : ∃ W, W = w3.setCell ⟨T, 33, none⟩ (.slice (some ⟨gd, 0, none⟩) (n - 1) n) := ⟨_, rfl⟩
  have HP : Hid (TB W T 0 (.slice (some ⟨gd, 0, none⟩) (n - 1) n) (.slice (some ⟨gm, 0, none⟩) p p) ∧ RowAt W base 35 3 (.slice (some ⟨gd, 0, none⟩) (n - 1) n) (dropAt (dl3 A B H n) (k : Int)).length (f3 (dropAt (dl3 A B H n) (k : Int))) ∧ RowAt W base 40 3 (.slice (some ⟨gm, 0, none⟩) p p) p (f3 (mem3 P R X p)) ∧ Chg w W (fun i => i = T ∨ i = gd ∨ i = gm)) := by rw [hW]; exact ⟨t4, r4, m4, c4⟩
  have HW : Hid (W = w3.setCell ⟨T, 33, none⟩ (.slice (some ⟨gd, 0, none⟩) (n - 1) n)) := hW
  have sW : w.heap.size < W.heap.size := by have := hc3.size; rw [hW]; simp [World.setCell]; omega
  have z0 : W.cell? ⟨w.heap.size, 0, none⟩ = some (.int .i64 c) := by rw [hW]; exact (Chg.setCell w3 ⟨T, 33, none⟩ _).cell y0 (by show ¬ w.heap.size = T; omega)
  have z1 : W.cell? ⟨w.heap.size, 1, none⟩ = some (.int .u64 d) := by rw [hW]; exact (Chg.setCell w3 ⟨T, 33, none⟩ _).cell y1 (by show ¬ w.heap.size = T; omega)
  clear hr3 hc3 t3 t4 r4 m4 c4 HB hh2 hd2 x0 x1 hgd hW
  go_wp2_with fail
  rw [← HW.out]
  have HA : Hid (TB W T 0 (.slice (some ⟨gd, 0, none⟩) (n - 1) n) (.slice (some ⟨gm, 0, none⟩) p p)) := HP.out.1
  have hp : (mem3 P R X p).length = p := by simp [mem3]
  have hlT : liveB (.slice (some ⟨gd, 0, none⟩) (n - 1) n) ≠ some T := HP.out.1.ne HP.out.2.1 (by decide)
  have hlm : liveB (.slice (some ⟨gm, 0, none⟩) p p) ≠ some T := HP.out.1.ne HP.out.2.2.1 (by decide)
  have HL2 : Hid (liveB (.slice (some ⟨gd, 0, none⟩) (n - 1) n) ≠ some T ∧ liveB (.slice (some ⟨gm, 0, none⟩) p p) ≠ some T ∧ (mem3 P R X p).length = p) := ⟨hlT, hlm, hp⟩
  clear hlT hlm hp
  refine (mark_yes (base := base) (P := P) (R := R) HL.out.ifc c d 108 _ (HA.out.kept (Chg.alloc W _) id) (HP.out.2.2.1.alloc _) HL.out.p1 (by have := HL.out.bs; simp; omega) HF.out HL.out.mT).mono ?_
  rintro e w5 ⟨rfl, mv', m, hm, h5, r5, c5⟩
  have hgm : gm < w.heap.size := HL.out.gl.2
  have hgd : gd < w.heap.size := HL.out.gl.1
  have fin : ∃ ub : Nat, w.heap.size ≤ ub ∧ w5.cell? ⟨ub, 0, none⟩ = some (.iface te ye) ∧ LPost w w5 T base gd gm (dropAt (dl3 A B H n) (k : Int)) (remembered (mem3 P R X p) (c, d, .iface 108 (.pointer (some ⟨ub, 0, none⟩)))) := by
    have hWs : W.heap.size = w3.heap.size := by rw [HW.out]; simp [World.setCell]
    refine ⟨w3.heap.size, by omega, c5.cell (by rw [← hWs]; simp) (by show ¬ (w3.heap.size = T ∨ w3.heap.size = gm); omega), _, mv', h5, c5.row (HP.out.2.1.alloc _) ?_, ?_, (HP.out.2.2.2.trans (Chg.alloc _ _) (fun _ _ h => h.elim)).trans c5 (fun _ _ h => h.elim .inl (fun h => .inr (.inr h)))⟩
    · intro k hk e
      rcases e with e | e
      · exact HL2.out.1 (by rw [hk, e])
      · have : k = gd := by
          revert hk; cases n with
          | zero => omega
          | succ n => intro hk; simpa [liveB] using hk.symm
        exact HL.out.dm (by rw [← this, e])
    · rw [← hm]; exact r5
  clear h5 c5 r5 hm
  go_wp2
  go_end0
  exact ⟨rfl, fin⟩

end Go.Proofs.Ybulkbiqo
