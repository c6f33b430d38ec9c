/- A proof of 'Rows.LawS2966CFillSaid', on the shell written by proof-skeleton.mjs. -/
import Derived.Test.YbulkbikcAtom
import Derived.WalkKit
import Derived.ProofKit
import Derived.OpenShut
import Derived.ShutString
namespace Go.Proofs.Ybulkbikc.lawS2966CFill
open Go.ChangeShapes Go.WideShapes Go.ChangeAt Go.RowKit
open Go.ChangeMaps (open_string shut_string)
set_option linter.unusedVariables false      -- a walk need not use every 'w<i>' (that an integer argument fits its kind)

theorem own : ownKnob Yba.prog.godebug = none := by kernel_rfl

/-! ### STEP 1: THE WALK: the Go text returns true. 'Grown w w'': the world has at most new blocks (Derived/RowKit3.lean). Part the cases AHEAD of 'go_enter' where a test parts the walk; take each callee by a contract of your own. -/
set_option maxHeartbeats 400000 in
theorem walk (a0 : Int) (w0 : (Lit.int .u16 a0).wf = true) (w : World) :
    Calls Yba.prog 7 #[.int .u16 a0] w fun e w' => e = .returned (.bool true) ∧ Grown w w' := by
  have hb := bounds_u16 w0
  obtain ⟨hb0, hb1⟩ := hb
  go_enter Yba.func7, Yba.ntmps7
  go_wp2_with fail
  go_loopw [5, 6] (fun k i wr => ∃ m : Nat, k = .int .i64 m ∧ i = .int .i64 m ∧ (m : Int) ≤ (a0 + 1) / 2 ∧ wr.cell? ⟨w.heap.size, 35, none⟩ = some (.int .i32 m) ∧ wr.frozen? ⟨w.heap.size, 35, none⟩ = false ∧ Grown w wr)
    (fun _ i _ => (a0 + 2 - intOf i).toNat)
  case atStart => 
    refine ⟨0, rfl, rfl, by omega, ?_, ?_, (Grown.refl _).alloc _ _⟩
    · simp [go_sem]
    · simp [go_sem]
  case round =>
    obtain ⟨m, rfl, rfl, hm, hc, hz, hg⟩ := hrel
    by_cases hlt : (m : Int) < (a0 + 1) / 2
    · go_wp2_with (go_at_call 20; refine (admit_yes w.heap.size m a0 _ hc hz (by omega) (by omega) hb0 (by omega) hlt).mono ?_; rintro e w' ⟨rfl, rfl⟩)
      go_roundw
      case rel => exact ⟨m + 1, by go_num, by go_num, by omega, World.cell?_setCell_same _ _ _ hc, by simp [hz], hg.setCell (Nat.le_refl _) _⟩
      case measure => simp [intOf]; omega
    · go_wp2_with (first | (go_at_call 20; refine (admit_no w.heap.size m a0 _ hc (by omega) (by omega) hb0 (by omega) (by omega)).mono ?_; rintro e w' ⟨rfl, rfl⟩) | (go_at_call 21; refine (load32 w.heap.size 35 m _ hc).mono ?_; rintro e w' ⟨rfl, rfl⟩))
      all_goals
        go_ret
        exact ⟨rfl, hg⟩

/-! ### THE ROW's STEP: WRITTEN OUT: LEAVE IT -/
set_option maxRecDepth 100000 in
theorem lifted (os : Os) (started : os.Started) (H : Type) (enc : TypeId × Value → H) :
    ReturnsInHanded {} Yba.checked os 7 .any (Rows.lawS2966CFillSpec.pre6 enc Yba.prog Yba.f7 Rows.lawS2966CFillRow.domain false) (Rows.lawS2966CFillSpec.post enc Yba.prog Yba.f7 false true false false) := by
  refine returnsInHanded_of_change (C := Yba.checked) own started (by kernel_rfl) Yba.func7
    (ChangeSpec.witness6 (enc := enc) (C := Yba.checked) false ⟨#[], #[.int .u16 0], []⟩ 8 (by kernel_rfl) (by kernel_rfl) (by kernel_rfl) (by kernel_rfl)) ?_
  intro W base args ds gs before hval0 hW hcnd _
  have hval : ∀ (j : Nat) t v, Yba.f7.params[j]? = some t → args[j]? = some v → Value.okWide Yba.prog W .any base t v := hval0
  have hW' := hW
  obtain ⟨p, q, hA0, hV, rfl, hfz, hnd⟩ := hW
  have hA : DataW.TrodAll enc Yba.prog W 0 (fun _ => true) true Yba.f7.params.toList args.toList ds p := hA0
  rw [Yba.params7] at hA hval
  obtain ⟨v0, vs0, d0, ds0, p0, q0, hargs, rfl, rfl, h0, r0⟩ := trodAll_cons hA
  obtain ⟨rfl, rfl, rfl⟩ := trodAll_nil r0
  obtain rfl : args = #[v0] := by cases args; simp_all
  obtain ⟨rfl, rfl⟩ := trodVars_none hV
  obtain ⟨a0, rfl, rfl, rfl, w0⟩ := open_int Yba.underlying81 (hval 0 81 v0 rfl rfl) h0
  clear hA0 hval0
  simp only [List.append_nil] at hW'
  refine (walk a0 w0 W).mono fun e W' ⟨he, hg⟩ => ?_
  subst he
  exact ⟨_, rfl, post_of_same (pa := []) (pv := []) hW' (fun _ _ _ => (trodAll_cons_mk (shut_bool Yba.underlying4 _) trodAll_mk0)) (fun sp _ => (trodAll_cons_mk (shut_int Yba.underlying81 w0) trodAll_mk0)) (fun _ _ => rfl) rfl
    (hg.frame _) hg.2.1 (ok_one (by kernel_rfl) rfl (okWide_bool_mk Yba.underlying4 _))⟩

theorem over : Rows.lawS2966CFillRow.holds Yba.pinned (OpenSpec.ofChange Rows.lawS2966CFillSpec) :=
  OpenClaim.holds_of_wide 7 Yba.f7 rfl rfl rfl rfl rfl rfl rfl ⟨rfl, rfl, rfl, rfl, rfl⟩ rfl rfl rfl rfl rfl (by kernel_rfl) Yba.func7 (by kernel_rfl)
    (of_decide_eq_true (by kernel_rfl)) (by unfold Func.isWrapper; first | (rw [if_pos (by decide +kernel)]; kernel_rfl) | (rw [if_neg (by decide +kernel)]; exact ⟨rfl, rfl⟩))
    (fun os started H enc _ => lifted os started H enc)

/-- ████ THE STATEMENT ████ -/
theorem proved : Rows.LawS2966CFillSaid :=
  over
#print axioms proved
end Go.Proofs.Ybulkbikc.lawS2966CFill
