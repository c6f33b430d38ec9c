/-
  LawS2978BEnded: the Train's block, and what stands behind linkingEnded.
-/
import Derived.Test.YbulkbiqoLink
namespace Go.Proofs.Ybulkbiqo
open Go Go.RowKit Go.MuLone

theorem build106 (w : World) : (Instr.build 106 #[]).run Yba.prog w = .ok (.agg Yba.zeroCells106) w := by kernel_rfl
theorem box106 (w : World) : (Instr.box 106 (.agg Yba.zeroCells106)).run Yba.prog w = .ok (.pointer (some ⟨w.heap.size, 0, none⟩)) (w.alloc (.cells Yba.zeroCells106 106)) := by kernel_rfl
theorem z33 : Yba.zeroCells106[33]? = some (.slice none 0 0) := by kernel_rfl
theorem z34 : Yba.zeroCells106[34]? = some (.int .i32 0) := by kernel_rfl
theorem z36 : Yba.zeroCells106[36]? = some (.slice none 0 0) := by kernel_rfl
theorem train_new (w : World) : TB (w.alloc (.cells Yba.zeroCells106 106)) w.heap.size 0 (.slice none 0 0) (.slice none 0 0) :=
  ⟨(World.cell?_alloc_new w _ _ _).trans z33, (World.cell?_alloc_new w _ _ _).trans z34, (World.cell?_alloc_new w _ _ _).trans z36, _, by show (w.heap.push _)[w.heap.size]? = _; exact Array.getElem?_push_size⟩
theorem wp_build106 {o : Oper} {a : Act} {w : World} {K : Act → World → Prop} {Q : Exit → Act → World → Prop} (ho : o.op = .build 106 #[]) (h : K (a.put o.dst (.agg Yba.zeroCells106)) w) : o.wp Yba.prog a w K Q := by
  unfold Oper.wp execOp
  simp [ho, build106, Result.andThen]
  exact h
theorem wp_box106 {o : Oper} {a : Act} {w : World} {K : Act → World → Prop} {Q : Exit → Act → World → Prop} (x : Operand) (ho : o.op = .box 106 x) (hx : a.eval x = .agg Yba.zeroCells106) (h : K (a.put o.dst (.pointer (some ⟨w.heap.size, 0, none⟩))) (w.alloc (.cells Yba.zeroCells106 106))) : o.wp Yba.prog a w K Q := by
  unfold Oper.wp execOp
  simp [ho, hx, box106, Result.andThen]
  exact h

/-- The members that are wanted. -/
def wantM (ad : Bool) (p : Nat) (P R : Nat → Int) (c d : Int) : List (Int × Int) := if ad then (if p = 32 then ((List.range p).map fun i => (P i, R i)).drop 1 else (List.range p).map fun i => (P i, R i)) ++ [(c, d)] else (List.range p).map fun i => (P i, R i)

/-- Why a member is silent. -/
def MV (W : World) (ad : Bool) (ev : Value) (pv : Nat) (last : Prop) (v : Value) : Prop :=
  (ad = true → last → ∃ ub : Nat, v = .iface 108 (.pointer (some ⟨ub, 0, none⟩)) ∧ W.cell? ⟨ub, 0, none⟩ = some ev) ∧ (¬ (ad = true ∧ last) → v = .iface 113 (.pointer (some ⟨pv, 0, none⟩)))

/-- The state behind the call. -/
structure Fin7 (w W : World) (T base : Nat) (dv mv u23 u24 u29 : Value) (kl : List Nat) (A B : Nat → Int) (H : Nat → Bool) (ml : List (Int × Int × Value)) (L : List (Int × Int)) (ad : Bool) (ev : Value) (pv : Nat) : Prop where
  be : Below w.heap.size w W
  tb : TB W T 0 dv mv
  dr : RowAt W base 35 3 dv kl.length (f3 (kl.map fun i => (A i, B i, Value.bool (H i))))
  mr : RowAt W base 40 3 mv L.length (f3 ml)
  wr : ∃ b, RowAt W b 26 2 u23 kl.length (f2 (kl.map fun i => (A i, B i)))
  hr : ∃ b, RowAt W b 4 1 u24 kl.length (kl.map fun i => Value.bool (H i))
  xr : ∃ b, RowAt W b 26 2 u29 L.length (f2 L)
  mm : ∀ i, i < L.length → ∃ x v, L[i]? = some x ∧ ml[i]? = some (x.1, x.2, v) ∧ MV W ad ev pv (i + 1 = L.length) v

section
variable {w W : World} {T base : Nat} {dv mv u23 u24 u29 : Value} {kl : List Nat} {A B : Nat → Int} {H : Nat → Bool} {ml : List (Int × Int × Value)} {L : List (Int × Int)} {ad : Bool} {ev : Value} {pv : Nat}
theorem Fin7.drew (F : Fin7 w W T base dv mv u23 u24 u29 kl A B H ml L ad ev pv) : Fin7 w W.drew T base dv mv u23 u24 u29 kl A B H ml L ad ev pv :=
  ⟨⟨F.be.os, F.be.tape, F.be.output, F.be.size, F.be.block⟩, ⟨F.tb.d, F.tb.mu, F.tb.m, F.tb.blk⟩, F.dr, F.mr, F.wr, F.hr, F.xr, F.mm⟩
end

theorem mem3_map (P R : Nat → Int) (v : Value) (p : Nat) : mem3 P R (fun _ => v) p = ((List.range p).map fun i => (P i, R i)).map fun x => (x.1, x.2, v) := by
  unfold mem3; rw [List.map_map]; rfl

theorem fin_of {w wc W1 w7 : World} {wb gd gm n p : Nat} {c d : Int} {A B : Nat → Int} {H : Nat → Bool} {P R : Nat → Int} {pv : Nat} {t : Int} {bb : Nat} {u23 u24 : Value} {be : Nat} {u29 : Value} {ad f : Bool} {T : Nat} {ev : Value}
    (l6 : L6 w wc wb gd gm n p c d A B H P R pv t bb u23 u24 be u29 (wantM ad p P R c d)) (hT : T = wc.heap.size) (e1 : Ext wc W1) (ht : t = firstAt A B c d 0 n) (had : ad = ((f && !heardAt H t) && !anyAt P R c d p))
    (post : (((f && !heardAt H (firstAt A B c d 0 n)) && !anyAt P R c d p) = false ∧ LPost W1 w7 T w.heap.size gd gm (dropAt (dl3 A B H n) (firstAt A B c d 0 n)) (mem3 P R (fun _ => .iface 113 (.pointer (some ⟨pv, 0, none⟩))) p) ∨
       ((f && !heardAt H (firstAt A B c d 0 n)) && !anyAt P R c d p) = true ∧ ∃ ub : Nat, W1.heap.size ≤ ub ∧ w7.cell? ⟨ub, 0, none⟩ = some ev ∧ LPost W1 w7 T w.heap.size gd gm (dropAt (dl3 A B H n) (firstAt A B c d 0 n)) (remembered (mem3 P R (fun _ => .iface 113 (.pointer (some ⟨pv, 0, none⟩))) p) (c, d, .iface 108 (.pointer (some ⟨ub, 0, none⟩)))))) :
    ∃ dv mv ml, Fin7 w w7 T w.heap.size dv mv u23 u24 u29 (keepL t n) A B H ml (wantM ad p P R c d) ad ev pv := by
  have h1 := l6.ext e1
  have key : ∀ ml, LPost W1 w7 T w.heap.size gd gm (dropAt (dl3 A B H n) (firstAt A B c d 0 n)) ml → ml.length = (wantM ad p P R c d).length → (∀ i, i < (wantM ad p P R c d).length → ∃ x v, (wantM ad p P R c d)[i]? = some x ∧ ml[i]? = some (x.1, x.2, v) ∧ MV w7 ad ev pv (i + 1 = (wantM ad p P R c d).length) v) →
      ∃ dv mv ml, Fin7 w w7 T w.heap.size dv mv u23 u24 u29 (keepL t n) A B H ml (wantM ad p P R c d) ad ev pv := by
    rintro ml ⟨dv, mv, tb, dr, mr, hc⟩ hlen hmm
    rw [drop_dl3, ← ht, List.length_map] at dr
    rw [hlen] at mr
    have hlo := l6.l4.lo
    have hwd := l6.l4.bs.wd
    have hdm := l6.l4.bs.dm
    have hml := l6.l4.bs.ml
    have hle := l6.le
    have hbe := l6.hi
    have hwl := l6.l4.bs.e0.lo
    refine ⟨dv, mv, ml, ⟨h1.l4.bs.e0.be.trans (hc.below h1.l4.bs.e0.be.size ?_), tb, dr, mr, ⟨_, hc.row h1.l4.wr ?_⟩, ⟨_, hc.row h1.l4.hr ?_⟩, ⟨_, hc.row h1.mr ?_⟩, hmm⟩⟩
    · rintro k hk (rfl | rfl | rfl) <;> omega
    · intro i hi
      have h2 := (h1.l4.wr.lt i hi).1
      have h3 := l6.a1 i hi
      rintro (rfl | rfl | rfl) <;> omega
    · intro i hi
      have h2 := (h1.l4.hr.lt i hi).1
      have h3 := l6.a2 i hi
      rintro (rfl | rfl | rfl) <;> omega
    · intro i hi
      have h2 := (h1.mr.lt i hi).1
      have h3 := (l6.mr.lt i hi).2.1
      rintro (rfl | rfl | rfl) <;> omega
  rw [← ht] at post
  rcases post with ⟨h0, hp⟩ | ⟨h0, ub, _, hcell, hp⟩
  · rw [h0] at had
    subst had
    refine key _ (by rw [← ht]; exact hp) (by simp [mem3, wantM]) ?_
    intro i hi
    have hi' : i < p := by simpa [wantM] using hi
    exact ⟨(P i, R i), _, by simp [wantM, hi'], by rw [mem3_get _ _ _ _ _ hi'], by simp [MV]⟩
  · rw [h0] at had
    subst had
    obtain ⟨L', hL'⟩ : ∃ L', L' = if p = 32 then ((List.range p).map fun i => (P i, R i)).drop 1 else (List.range p).map fun i => (P i, R i) := ⟨_, rfl⟩
    have hW : wantM true p P R c d = L' ++ [(c, d)] := by rw [hL']; rfl
    have hM : remembered (mem3 P R (fun _ => .iface 113 (.pointer (some ⟨pv, 0, none⟩))) p) (c, d, .iface 108 (.pointer (some ⟨ub, 0, none⟩))) = (L'.map fun x => (x.1, x.2, Value.iface 113 (.pointer (some ⟨pv, 0, none⟩)))) ++ [(c, d, .iface 108 (.pointer (some ⟨ub, 0, none⟩)))] := by
      have hl : (mem3 P R (fun _ => .iface 113 (.pointer (some ⟨pv, 0, none⟩))) p).length = p := by simp [mem3]
      rw [remembered, hl, hL']
      split
      · rw [mem3_map, List.map_drop]
      · rw [mem3_map]
    refine key _ (by rw [← ht]; exact hp) (by rw [hM, hW]; simp) ?_
    intro i hi
    rw [hM, hW] at *
    by_cases he : i < L'.length
    · refine ⟨L'[i], .iface 113 (.pointer (some ⟨pv, 0, none⟩)), ?_, ?_, ?_⟩
      · rw [List.getElem?_append_left he]; exact List.getElem?_eq_getElem he
      · rw [List.getElem?_append_left (by simpa using he)]; simp [he]
      · refine ⟨fun _ hl => ?_, fun _ => rfl⟩
        simp at hl; omega
    · have he2 : i = L'.length := by simp at hi; omega
      subst he2
      refine ⟨(c, d), .iface 108 (.pointer (some ⟨ub, 0, none⟩)), by simp, by simp, ?_⟩
      refine ⟨fun _ _ => ⟨ub, rfl, hcell⟩, fun hn => absurd ⟨rfl, by simp⟩ hn⟩

section
variable {w W : World} {T base : Nat} {kl : List Nat} {A B : Nat → Int} {H : Nat → Bool} {ml : List (Int × Int × Value)} {L : List (Int × Int)} {ad : Bool} {ev : Value} {pv : Nat}
theorem Fin7.at7 {da wa ha : Option Addr} {m dc wcp hc k : Nat} {mv u29 : Value} (F : Fin7 w W T base (.slice da m dc) mv (.slice wa m wcp) (.slice ha m hc) u29 kl A B H ml L ad ev pv) (hk : k < m) :
    ∃ (x y : Int) (h : Bool) (g o g2 o2 g3 o3 : Nat), da = some ⟨g, o, none⟩ ∧ wa = some ⟨g2, o2, none⟩ ∧ ha = some ⟨g3, o3, none⟩ ∧ W.cell? ⟨g, o + k * 3, none⟩ = some (.int .i64 x) ∧ W.cell? ⟨g, o + k * 3 + 1, none⟩ = some (.int .u64 y) ∧ W.cell? ⟨g, o + k * 3 + 2, none⟩ = some (.bool h) ∧
      W.cell? ⟨g2, o2 + k * 2, none⟩ = some (.int .i64 x) ∧ W.cell? ⟨g2, o2 + k * 2 + 1, none⟩ = some (.int .u64 y) ∧ W.cell? ⟨g3, o3 + k, none⟩ = some (.bool h) := by
  obtain ⟨_, _, e1, _, _⟩ := F.dr.form
  simp only [Value.slice.injEq] at e1
  obtain rfl := e1.2.1
  obtain ⟨b1, wr⟩ := F.wr
  obtain ⟨b2, hr⟩ := F.hr
  obtain ⟨g, o, cp, h1, _, _, _, c1, _⟩ := F.dr.at (by omega)
  obtain ⟨g2, o2, cp2, h2, _, _, _, c2, _⟩ := wr.at (by omega)
  obtain ⟨g3, o3, cp3, h3, _, _, _, c3, _⟩ := hr.at (by omega)
  simp only [Value.slice.injEq, true_and] at h1 h2 h3
  have hi : kl[k]? = some kl[k] := List.getElem?_eq_getElem hk
  have q1 : (kl.map fun i => (A i, B i, Value.bool (H i)))[k]? = some (A kl[k], B kl[k], Value.bool (H kl[k])) := by rw [List.getElem?_map, hi]; rfl
  have q2 : (kl.map fun i => (A i, B i))[k]? = some (A kl[k], B kl[k]) := by rw [List.getElem?_map, hi]; rfl
  have q3 : (kl.map fun i => Value.bool (H i))[k]? = some (Value.bool (H kl[k])) := by rw [List.getElem?_map, hi]; rfl
  have r1 := f3_get _ _ _ q1
  have r2 := f2_get _ _ _ q2
  refine ⟨A kl[k], B kl[k], H kl[k], g, o, g2, o2, g3, o3, h1.1, h2.1, h3.1, ?_, ?_, ?_, ?_, ?_, ?_⟩
  · exact (c1 (k * 3) (by omega)).trans r1.1
  · exact (c1 (k * 3 + 1) (by omega)).trans r1.2.1
  · exact (c1 (k * 3 + 2) (by omega)).trans r1.2.2
  · exact (c2 (k * 2) (by omega)).trans r2.1
  · exact (c2 (k * 2 + 1) (by omega)).trans r2.2
  · exact (c3 k (by omega)).trans q3

theorem Fin7.at8 {ma xa : Option Addr} {m mc xc k : Nat} {dv u23 u24 : Value} (F : Fin7 w W T base dv (.slice ma m mc) u23 u24 (.slice xa m xc) kl A B H ml L ad ev pv) (hk : k < m) :
    ∃ (x y : Int) (v : Value) (g o g2 o2 : Nat), ma = some ⟨g, o, none⟩ ∧ xa = some ⟨g2, o2, none⟩ ∧ W.cell? ⟨g, o + k * 3, none⟩ = some (.int .i64 x) ∧ W.cell? ⟨g, o + k * 3 + 1, none⟩ = some (.int .u64 y) ∧ W.cell? ⟨g, o + k * 3 + 2, none⟩ = some v ∧
      W.cell? ⟨g2, o2 + k * 2, none⟩ = some (.int .i64 x) ∧ W.cell? ⟨g2, o2 + k * 2 + 1, none⟩ = some (.int .u64 y) ∧ MV W ad ev pv (k + 1 = m) v := by
  obtain ⟨_, _, e1, _, _⟩ := F.mr.form
  simp only [Value.slice.injEq] at e1
  obtain rfl := e1.2.1
  obtain ⟨b1, xr⟩ := F.xr
  obtain ⟨g, o, cp, h1, _, _, _, c1, _⟩ := F.mr.at (by omega)
  obtain ⟨g2, o2, cp2, h2, _, _, _, c2, _⟩ := xr.at (by omega)
  simp only [Value.slice.injEq, true_and] at h1 h2
  obtain ⟨x, v, q2, q1, hv⟩ := F.mm k hk
  have r1 := f3_get _ _ _ q1
  have r2 := f2_get _ _ _ q2
  refine ⟨x.1, x.2, v, g, o, g2, o2, h1.1, h2.1, ?_, ?_, ?_, ?_, ?_, hv⟩
  · exact (c1 (k * 3) (by omega)).trans r1.1
  · exact (c1 (k * 3 + 1) (by omega)).trans r1.2.1
  · exact (c1 (k * 3 + 2) (by omega)).trans r1.2.2
  · exact (c2 (k * 2) (by omega)).trans r2.1
  · exact (c2 (k * 2 + 1) (by omega)).trans r2.2
end
end Go.Proofs.Ybulkbiqo
