/- A proof of 'Rows.LawS2978BEndedSaid', on the shell of LawS2978BEnded's make. -/
import Derived.Test.YbulkbiqoH
import Derived.Test.YbulkbiqoJ
import Derived.ProofKit
import Derived.OpenShut
import Derived.ShutString
import Derived.ChangeOld
import Derived.Below
import Derived.Deep.SlicePairs
namespace Go.Proofs.Ybulkbiqo.lawS2978BEnded
open Go.ChangeShapes Go.WideShapes Go.ChangeAt Go.RowKit Go.Deep
set_option linter.unusedVariables false

theorem own : ownKnob Yba.prog.godebug = none := by kernel_rfl
theorem laidOut : laidOutB Yba.prog = true := by kernel_rfl

section
variable {H : Type} {enc : TypeId × Value → H} {P : Program} {w : World} {base : Nat} {spare : Nat → Bool} {held : Bool}
/-- A slice of structs of three one-cell fields, opened. -/
theorem open_slice_triples {t e : TypeId} {f0 f1 f2 : Field} {fuel : Nat} {cs : List Value} {x : DataW H × List MemPlace} (ht : P.underlying t = some (.slice e)) (he : P.underlying e = some (.struct #[f0, f1, f2]))
    (ce : P.cellsOf e = 3) (o0 : f0.offset = 0) (o1 : f1.offset = 1) (o2 : f2.offset = 2) (c0 : P.cellsOf f0.type = 1) (c1 : P.cellsOf f1.type = 1) (c2 : P.cellsOf f2.type = 1)
    (h : DataW.trod enc P w base spare held fuel t cs = some x) :
    cs = [.slice none 0 0] ∨
    ∃ (a : Addr) (len cap n : Nat), cs = [.slice (some a) len cap] ∧ len ≤ cap ∧
      ∀ i, i < len → ∃ (v0 v1 v2 : Value) (y0 y1 y2 : DataW H × List MemPlace), w.cell? (a.add (i * 3)) = some v0 ∧ w.cell? (a.add (i * 3 + 1)) = some v1 ∧ w.cell? (a.add (i * 3 + 2)) = some v2 ∧
        DataW.trod enc P w base spare held n f0.type [v0] = some y0 ∧ DataW.trod enc P w base spare held n f1.type [v1] = some y1 ∧ DataW.trod enc P w base spare held n f2.type [v2] = some y2 := by
  rcases open_slice ht h with h0 | ⟨a, len, cap, m, n, D, Pl, rfl, hb, hl, hm, hmm, rfl, hx⟩
  · exact Or.inl h0.1
  right
  have hlm : len ≤ m := by rw [hmm]; split <;> omega
  refine ⟨a, len, cap, n - 1, rfl, hl, fun i hi => ?_⟩
  obtain ⟨cs', h1, h2⟩ := hx i (by omega)
  rw [ce] at h1
  obtain ⟨_, hlen, hcell⟩ := World.cells?_some h1
  obtain ⟨xs, k, hk, hxy, _, hxl, hf⟩ := DataW.trod_struct he h2
  have hk' : k = n - 1 := by omega
  subst hk'
  match xs, hxl, cs', hlen with
  | [y0, y1, y2], _, [v0, v1, v2], _ =>
    have g0 := hf 0 f0 rfl
    have g1 := hf 1 f1 rfl
    have g2 := hf 2 f2 rfl
    simp [o0, o1, o2, c0, c1, c2] at g0 g1 g2
    have e0 := hcell 0 (by omega)
    have e1 := hcell 1 (by omega)
    have e2 := hcell 2 (by omega)
    rw [add_add] at e0 e1 e2
    exact ⟨v0, v1, v2, y0, y1, y2, by simpa using e0, by simpa using e1, by simpa using e2, g0, g1, g2⟩
end

theorem walk (a0 : Option Addr) (n c0 : Nat) (a1 : Option Addr) (p c1 : Nat) (q0 q1 : Int) (f : Bool) (w2 : (Lit.int .u8 q0).wf = true) (w3 : (Lit.int .u8 q1).wf = true) (w : World)
    (h0 : ∃ id inc H, DIn w a0 n id inc H) (h1 : ∃ id inc, PIn w a1 p id inc) :
    Calls Yba.prog 3 #[.slice a0 n c0, .slice a1 p c1, .int .u8 q0, .int .u8 q1, .bool f] w fun e w' => e = .returned (.bool true) ∧ Below w.heap.size w w' := by
  by_cases hn : 1024 < n
  · exact main3_long1 a0 n c0 a1 p c1 q0 q1 f w hn
  by_cases hp : 1024 < p
  · exact main3_long2 a0 n c0 a1 p c1 q0 q1 f w (by omega) hp
  obtain ⟨id, inc, H, hD⟩ := h0
  obtain ⟨pid, pinc, hP⟩ := h1
  obtain ⟨h20, h21⟩ := bounds_u8 w2
  obtain ⟨h30, h31⟩ := bounds_u8 w3
  refine main3 a0 n c0 a1 p c1 id inc H pid pinc (fun i => id i % 4) (fun i => inc i % 2) (fun i => pid i % 4) (fun i => pinc i % 2) q0 q1 (q0 % 4) (q1 % 2) f w (by omega) (by omega) (fun w => ident4 q0 q1 h20 h21 h30 h31 w) hD hP ?_ ?_
  · intro k hk W
    obtain ⟨b, o, _, _, hc⟩ := hD (by omega)
    obtain ⟨_, _, _, r0, r1, r2, r3⟩ := hc k hk
    exact ident4 _ _ r0 r1 r2 r3 W
  · intro k hk W
    obtain ⟨b, o, _, _, hc⟩ := hP (by omega)
    obtain ⟨_, _, r0, r1, r2, r3⟩ := hc k hk
    exact ident4 _ _ r0 r1 r2 r3 W

set_option maxRecDepth 100000 in
theorem lifted (os : Os) (started : os.Started) (H : Type) (enc : TypeId × Value → H) :
    ReturnsInHanded {} Yba.checked os 3 .any (Rows.lawS2978BEndedSpec.pre6 enc Yba.prog Yba.f3 Rows.lawS2978BEndedRow.domain false) (Rows.lawS2978BEndedSpec.post enc Yba.prog Yba.f3 false true false false) := by
  refine returnsInHanded_of_change (C := Yba.checked) own started (by kernel_rfl) Yba.func3
    (ChangeSpec.witness6 (enc := enc) (C := Yba.checked) false ⟨#[], #[.slice none 0 0, .slice none 0 0, .int .u8 0, .int .u8 0, .bool false], []⟩ 8 (by kernel_rfl) (by kernel_rfl) (by kernel_rfl) (by kernel_rfl)) ?_
  intro W base args ds gs before hval0 hW hcnd _
  have hval : ∀ (j : Nat) t v, Yba.f3.params[j]? = some t → args[j]? = some v → Value.okWide Yba.prog W .any base t v := hval0
  have hW' := hW
  obtain ⟨p, q, hA0, hV, rfl, hfz, hnd⟩ := hW
  have hA : DataW.TrodAll enc Yba.prog W 0 (fun _ => true) true Yba.f3.params.toList args.toList ds p := hA0
  rw [Yba.params3] at hA hval
  obtain ⟨v0, vs0, d0, ds0, p0, q0, hargs, rfl, rfl, h0, r0⟩ := trodAll_cons hA
  obtain ⟨v1, vs1, d1, ds1, p1, q1, rfl, rfl, rfl, h1, r1⟩ := trodAll_cons r0
  obtain ⟨v2, vs2, d2, ds2, p2, q2, rfl, rfl, rfl, h2, r2⟩ := trodAll_cons r1
  obtain ⟨v3, vs3, d3, ds3, p3, q3, rfl, rfl, rfl, h3, r3⟩ := trodAll_cons r2
  obtain ⟨v4, vs4, d4, ds4, p4, q4, rfl, rfl, rfl, h4, r4⟩ := trodAll_cons r3
  obtain ⟨rfl, rfl, rfl⟩ := trodAll_nil r4
  obtain rfl : args = #[v0, v1, v2, v3, v4] := by cases args; simp_all
  obtain ⟨rfl, rfl⟩ := trodVars_none hV
  obtain ⟨a0, len0, cap0, rfl⟩ := okWide_slice Yba.underlying22 (hval 0 22 v0 rfl rfl)
  obtain ⟨a1, len1, cap1, rfl⟩ := okWide_slice Yba.underlying23 (hval 1 23 v1 rfl rfl)
  obtain ⟨a2, rfl, rfl, rfl, w2⟩ := open_int Yba.underlying5 (hval 2 5 v2 rfl rfl) h2
  obtain ⟨a3, rfl, rfl, rfl, w3⟩ := open_int Yba.underlying5 (hval 3 5 v3 rfl rfl) h3
  obtain ⟨a4, rfl, rfl, rfl⟩ := open_bool Yba.underlying4 (hval 4 4 v4 rfl rfl) h4
  have k0 := h0
  have k1 := h1
  have lt0 : ∀ x ∈ p0, x.block < W.heap.size := by obtain ⟨m, hm⟩ := k0; exact DataW.trod_lt m _ _ _ hm
  have lt1 : ∀ x ∈ p1, x.block < W.heap.size := by obtain ⟨m, hm⟩ := k1; exact DataW.trod_lt m _ _ _ hm
  have hD : ∃ id inc H, DIn W a0 len0 id inc H := by
    obtain ⟨fuel, hf⟩ := h0
    rcases open_slice_triples Yba.underlying22 Yba.underlying33 (by kernel_rfl) rfl rfl rfl (by kernel_rfl) (by kernel_rfl) (by kernel_rfl) hf with hcs | ⟨a, l, c, n, hcs, hl, hx⟩
    · simp [Value.cells] at hcs
      obtain ⟨rfl, rfl, rfl⟩ := hcs
      exact ⟨fun _ => 0, fun _ => 0, fun _ => false, fun h => absurd h (by omega)⟩
    · simp [Value.cells] at hcs
      obtain ⟨rfl, rfl, rfl⟩ := hcs
      have each : ∀ i, i < len0 → ∃ q : Int × Int × Bool, W.cell? (a.add (i * 3)) = some (.int .u8 q.1) ∧ W.cell? (a.add (i * 3 + 1)) = some (.int .u8 q.2.1) ∧ W.cell? (a.add (i * 3 + 2)) = some (.bool q.2.2) ∧ (Lit.int .u8 q.1).wf = true ∧ (Lit.int .u8 q.2.1).wf = true := by
        intro i hi
        obtain ⟨u0, u1, u2, y0, y1, y2, e0, e1, e2, t0, t1, t2⟩ := hx i hi
        obtain ⟨z0, hz0, _, hw0⟩ := DataW.trod_int Yba.underlying5 t0
        obtain ⟨z1, hz1, _, hw1⟩ := DataW.trod_int Yba.underlying5 t1
        obtain ⟨z2, hz2, _⟩ := DataW.trod_bool Yba.underlying4 t2
        obtain rfl : u0 = .int .u8 z0 := by simpa using hz0
        obtain rfl : u1 = .int .u8 z1 := by simpa using hz1
        obtain rfl : u2 = .bool z2 := by simpa using hz2
        exact ⟨(z0, z1, z2), e0, e1, e2, hw0, hw1⟩
      obtain ⟨q, hq⟩ := choose_lt each
      obtain ⟨b, off, spot⟩ := a
      refine ⟨fun i => (q i).1, fun i => (q i).2.1, fun i => (q i).2.2, fun hpos => ?_⟩
      have hspot : spot = none := by simpa [Addr.add] using World.cell?_spot (hq 0 hpos).1
      subst hspot
      refine ⟨b, off, rfl, World.block_lt_of_cell? _ _ (hq 0 hpos).1, fun i hi => ?_⟩
      obtain ⟨e0, e1, e2, w0, w1⟩ := hq i hi
      rw [Addr.add_lit] at e0 e1 e2
      exact ⟨e0, by rw [← e1, Nat.add_assoc], by rw [← e2, Nat.add_assoc], (bounds_u8 w0).1, (bounds_u8 w0).2, (bounds_u8 w1).1, (bounds_u8 w1).2⟩
  have hP : ∃ id inc, PIn W a1 len1 id inc := by
    obtain ⟨fuel, hf⟩ := h1
    rcases open_slice_pairs Yba.underlying23 Yba.underlying38 (by kernel_rfl) rfl rfl (by kernel_rfl) (by kernel_rfl) hf with ⟨hcs, _⟩ | ⟨a, l, c, m, n, V0, V1, D0, D1, P0, P1, hcs, _, hl, hm, hmm, _, hx⟩
    · simp [Value.cells] at hcs
      obtain ⟨rfl, rfl, rfl⟩ := hcs
      exact ⟨fun _ => 0, fun _ => 0, fun h => absurd h (by omega)⟩
    · simp [Value.cells] at hcs
      obtain ⟨rfl, rfl, rfl⟩ := hcs
      have hmc : m = cap1 := by simpa using hmm
      have each : ∀ i, i < len1 → ∃ q : Int × Int, W.cell? (a.add (i * 2)) = some (.int .u8 q.1) ∧ W.cell? (a.add (i * 2 + 1)) = some (.int .u8 q.2) ∧ (Lit.int .u8 q.1).wf = true ∧ (Lit.int .u8 q.2).wf = true := by
        intro i hi
        obtain ⟨e0, e1, t0, t1⟩ := hx i (by omega)
        obtain ⟨z0, hz0, _, hw0⟩ := DataW.trod_int Yba.underlying5 t0
        obtain ⟨z1, hz1, _, hw1⟩ := DataW.trod_int Yba.underlying5 t1
        have q0 : V0 i = .int .u8 z0 := by simpa using hz0
        have q1 : V1 i = .int .u8 z1 := by simpa using hz1
        exact ⟨(z0, z1), by rw [e0, q0], by rw [e1, q1], hw0, hw1⟩
      obtain ⟨q, hq⟩ := choose_lt each
      obtain ⟨b, off, spot⟩ := a
      refine ⟨fun i => (q i).1, fun i => (q i).2, fun hpos => ?_⟩
      have hspot : spot = none := by simpa [Addr.add] using World.cell?_spot (hq 0 hpos).1
      subst hspot
      refine ⟨b, off, rfl, World.block_lt_of_cell? _ _ (hq 0 hpos).1, fun i hi => ?_⟩
      obtain ⟨e0, e1, w0, w1⟩ := hq i hi
      rw [Addr.add_lit] at e0 e1
      exact ⟨e0, by rw [← e1, Nat.add_assoc], (bounds_u8 w0).1, (bounds_u8 w0).2, (bounds_u8 w1).1, (bounds_u8 w1).2⟩
  clear hA0 hval0
  refine (walk a0 len0 cap0 a1 len1 cap1 a2 a3 a4 w2 w3 W hD hP).mono fun e W' ⟨he, bel⟩ => ?_
  subst he
  exact ⟨_, rfl, _, _, _, [], _, [], hW', trodAll_mk1 (shut_bool Yba.underlying4 _), (trodAll_cons_mk (Below.trod laidOut (by kernel_rfl) (of_decide_eq_true (by kernel_rfl)) k0 bel lt0) (trodAll_cons_mk (Below.trod laidOut (by kernel_rfl) (of_decide_eq_true (by kernel_rfl)) k1 bel lt1) (trodAll_cons_mk (shut_int Yba.underlying5 w2) (trodAll_cons_mk (shut_int Yba.underlying5 w3) (trodAll_cons_mk (shut_bool Yba.underlying4 _) trodAll_mk0))))), rfl, bel.frame _, fun h => by cases h⟩

theorem over : Rows.lawS2978BEndedRow.holds Yba.pinned (OpenSpec.ofChange Rows.lawS2978BEndedSpec) :=
  OpenClaim.holds_of_wide 3 Yba.f3 rfl rfl rfl rfl rfl rfl rfl ⟨rfl, rfl, rfl, rfl, rfl⟩ rfl rfl rfl rfl rfl (by kernel_rfl) Yba.func3 (by kernel_rfl)
    (of_decide_eq_true (by kernel_rfl)) (by unfold Func.isWrapper; first | (rw [if_pos (by decide +kernel)]; kernel_rfl) | (rw [if_neg (by decide +kernel)]; exact ⟨rfl, rfl⟩))
    (fun os started H enc _ => lifted os started H enc)

/-- ████ THE STATEMENT ████ -/
theorem proved : Rows.LawS2978BEndedSaid := over
#print axioms proved
end Go.Proofs.Ybulkbiqo.lawS2978BEnded
