/- A proof of 'Rows.LawS2966BModelSaid', on the shell of LawS2966BModel's make. -/
import Derived.Test.YbulkbikcModelE
import Derived.ProofKit
import Derived.OpenShut
import Derived.ShutString
import Derived.ChangeOld
import Derived.Below
import Derived.Deep.SlicePairs
namespace Go.Proofs.Ybulkbikc.lawS2966BModel
open Go.ChangeShapes Go.WideShapes Go.ChangeAt Go.RowKit Go.Deep
set_option linter.unusedVariables false

theorem own : ownKnob Yba.prog.godebug = none := by kernel_rfl
theorem laidOut : laidOutB Yba.prog = true := by kernel_rfl

/-- A slice of ops that came in. -/
def IsPairs (w : World) (a : Option Addr) (len cap : Nat) (op : Nat → Int) (fl : Nat → Bool) : Prop :=
  (a = none ∧ len = 0 ∧ cap = 0) ∨
  ∃ x, a = some x ∧ len ≤ cap ∧ ∀ i, i < len → w.cell? (x.add (i * 2)) = some (.int .u8 (op i)) ∧ w.cell? (x.add (i * 2 + 1)) = some (.bool (fl i)) ∧ (Lit.int .u8 (op i)).wf = true

theorem walk (a0 : Int) (w0 : (Lit.int .u32 a0).wf = true) (a1 : Option Addr) (len cap : Nat) (op : Nat → Int) (fl : Nat → Bool) (w : World) (w1 : IsPairs w a1 len cap op fl) :
    Calls Yba.prog 4 #[.int .u32 a0, .slice a1 len cap] w fun e w' => e = .returned (.bool true) ∧ Below w.heap.size w w' := by
  obtain ⟨h00, h01⟩ := bounds_u32 w0
  by_cases hpos : len = 0
  · subst hpos
    exact walk4_empty a0 h00 h01 a1 cap w
  by_cases hlen : 2048 < len
  · exact walk4_long a0 a1 len cap hlen w
  rcases w1 with ⟨_, h, _⟩ | ⟨x, rfl, hlc, hx⟩
  · exact absurd h hpos
  obtain ⟨b, off, spot⟩ := x
  have hspot : spot = none := by simpa [Addr.add] using World.cell?_spot (hx 0 (by omega)).1
  subst hspot
  refine walk4 a0 h00 h01 b off len cap op fl w (by omega) (by omega) (fun i hi => ?_) (fun i hi => ?_) (fun i hi => bounds_u8 (hx i hi).2.2)
  · rw [← (hx i hi).1, Addr.add_lit]
  · rw [← (hx i hi).2.1, Addr.add_lit, Nat.add_assoc]

set_option maxRecDepth 100000 in
theorem lifted (os : Os) (started : os.Started) (H : Type) (enc : TypeId × Value → H) :
    ReturnsInHanded {} Yba.checked os 4 .any (Rows.lawS2966BModelSpec.pre6 enc Yba.prog Yba.f4 Rows.lawS2966BModelRow.domain false) (Rows.lawS2966BModelSpec.post enc Yba.prog Yba.f4 false true false false) := by
  refine returnsInHanded_of_change (C := Yba.checked) own started (by kernel_rfl) Yba.func4
    (ChangeSpec.witness6 (enc := enc) (C := Yba.checked) false ⟨#[], #[.int .u32 0, .slice none 0 0], []⟩ 8 (by kernel_rfl) (by kernel_rfl) (by kernel_rfl) (by kernel_rfl)) ?_
  intro W base args ds gs before hval0 hW hcnd _
  have hval : ∀ (j : Nat) t v, Yba.f4.params[j]? = some t → args[j]? = some v → Value.okWide Yba.prog W .any base t v := hval0
  have hW' := hW
  obtain ⟨p, q, hA0, hV, rfl, hfz, hnd⟩ := hW
  have hA : DataW.TrodAll enc Yba.prog W 0 (fun _ => true) true Yba.f4.params.toList args.toList ds p := hA0
  rw [Yba.params4] at hA hval
  obtain ⟨v0, vs0, d0, ds0, p0, q0, hargs, rfl, rfl, h0, r0⟩ := trodAll_cons hA
  obtain ⟨v1, vs1, d1, ds1, p1, q1, rfl, rfl, rfl, h1, r1⟩ := trodAll_cons r0
  obtain ⟨rfl, rfl, rfl⟩ := trodAll_nil r1
  obtain rfl : args = #[v0, v1] := by cases args; simp_all
  obtain ⟨rfl, rfl⟩ := trodVars_none hV
  obtain ⟨a0, rfl, rfl, rfl, w0⟩ := open_int Yba.underlying52 (hval 0 52 v0 rfl rfl) h0
  obtain ⟨a1, len1, cap1, rfl⟩ := okWide_slice Yba.underlying53 (hval 1 53 v1 rfl rfl)
  have k1 := h1
  have lt1 : ∀ x ∈ p1, x.block < W.heap.size := by obtain ⟨m, hm⟩ := k1; exact DataW.trod_lt m _ _ _ hm
  obtain ⟨op, fl, w1⟩ : ∃ op fl, IsPairs W a1 len1 cap1 op fl := by
    obtain ⟨fuel, hf⟩ := h1
    rcases open_slice_pairs Yba.underlying53 Yba.underlying70 (by kernel_rfl) rfl rfl (by kernel_rfl) (by kernel_rfl) hf with ⟨hcs, _⟩ | ⟨a, l, c, m, n, V0, V1, D0, D1, P0, P1, hcs, _, hl, hm, hmm, _, hx⟩
    · simp [Value.cells] at hcs
      obtain ⟨rfl, rfl, rfl⟩ := hcs
      exact ⟨fun _ => 0, fun _ => false, .inl ⟨rfl, rfl, rfl⟩⟩
    · simp [Value.cells] at hcs
      obtain ⟨rfl, rfl, rfl⟩ := hcs
      have hmc : m = cap1 := by simpa using hmm
      have h0' : ∀ i, i < len1 → ∃ z : Int, V0 i = .int .u8 z ∧ (Lit.int .u8 z).wf = true := by
        intro i hi
        obtain ⟨z, hz, _, hw⟩ := DataW.trod_int Yba.underlying5 (hx i (by omega)).2.2.1
        exact ⟨z, by simpa using hz, hw⟩
      have h1' : ∀ i, i < len1 → ∃ b : Bool, V1 i = .bool b := by
        intro i hi
        obtain ⟨z, hz, _⟩ := DataW.trod_bool Yba.underlying4 (hx i (by omega)).2.2.2
        exact ⟨z, by simpa using hz⟩
      obtain ⟨op, hop⟩ := choose_lt h0'
      obtain ⟨fl, hfl⟩ := choose_lt h1'
      refine ⟨op, fl, .inr ⟨_, rfl, hl, fun i hi => ?_⟩⟩
      have := hx i (by omega)
      exact ⟨by rw [this.1, (hop i hi).1], by rw [this.2.1, hfl i hi], (hop i hi).2⟩
  clear hA0 hval0
  refine (walk a0 w0 a1 len1 cap1 op fl W w1).mono fun e W' ⟨he, bel⟩ => ?_
  subst he
  exact ⟨_, rfl, _, _, _, [], _, [], hW', trodAll_mk1 (shut_bool Yba.underlying4 _), (trodAll_cons_mk (shut_int Yba.underlying52 w0) (trodAll_cons_mk (Below.trod laidOut (by kernel_rfl) (of_decide_eq_true (by kernel_rfl)) k1 bel lt1) trodAll_mk0)), rfl, bel.frame _, fun h => by cases h⟩

theorem over : Rows.lawS2966BModelRow.holds Yba.pinned (OpenSpec.ofChange Rows.lawS2966BModelSpec) :=
  OpenClaim.holds_of_wide 4 Yba.f4 rfl rfl rfl rfl rfl rfl rfl ⟨rfl, rfl, rfl, rfl, rfl⟩ rfl rfl rfl rfl rfl (by kernel_rfl) Yba.func4 (by kernel_rfl)
    (of_decide_eq_true (by kernel_rfl)) (by unfold Func.isWrapper; first | (rw [if_pos (by decide +kernel)]; kernel_rfl) | (rw [if_neg (by decide +kernel)]; exact ⟨rfl, rfl⟩))
    (fun os started H enc _ => lifted os started H enc)

/-- ████ THE STATEMENT ████ -/
theorem proved : Rows.LawS2966BModelSaid := over
#print axioms proved
end Go.Proofs.Ybulkbikc.lawS2966BModel
