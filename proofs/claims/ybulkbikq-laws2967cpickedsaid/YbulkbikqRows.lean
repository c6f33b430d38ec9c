/-
  No cell of these rows narrows 'for every input' (looked for: loops, veiled, ifaces, maps, wideKeys, modest, calm, conditions, laid).
  DERIVED. THE GIVEN ROWS OF THIS SEAT. 4 by the template 'for every input the law returns true; each argument reads behind the call as it read before'; 0 by the template 'total and deterministic' (their statements: YbulkbikqTotals.lean).
  GIVEN WITH THE SEED: the statements are not yours to turn. If you find one false, say at which input.
  Laid BY PROGRAM, IN A SANDBOX (cutbox-rows.mjs): the forced cells as the released guide's own fill.sh prints them over the translation 4bfa1a2a5c635a08… (all of the seat's roots in one cut). By AI agents, Wed Nov 11 2026. No macro, syntax, notation, axiom, sorry.
-/
import Derived.Test.YbulkbikqChecked
import GoSem.Claim
import GoSem.ClaimJoined
import GoSem.ClaimMapViews
import Derived.JoinedTies
import Derived.KernelRfl
namespace Go.Proofs.Ybulkbikq
/- THE CELL 'sum', in the pinned program and in every row, IS THE sha256 OF THE DUMP (.gsa) THAT YbulkbikqProg.lean LOADS. Nothing in Lean hashes anything: it is a label: what it is worth is what the hold of that sum in a sandbox is worth. -/
noncomputable def Yba.pinned : Pinned := { name := "ybulkbikq", sum := "4bfa1a2a5c635a08bd380aae520391a607358a3be7e0077c603908e4aaa9437d", checked := Yba.checked }
namespace Rows
def none {H : Type} : Left H := { results := [], args := [] }

/-- 'rollstep.LawS2967AModel': WHATEVER THE INPUT: true; the input reads as it did. -/
def lawS2967AModelSpec : ChangeSpec := { name := "lawS2967AModel", fn := fun _ => fun
  | [d1, d2] => { results := [.lit (.bool true)], args := [d1, d2] }
  | _ => none }
def lawS2967AModelRow : OpenClaim := { program := "ybulkbikq", sum := "4bfa1a2a5c635a08bd380aae520391a607358a3be7e0077c603908e4aaa9437d", func := "example.com/rollstep/rollstep.LawS2967AModel", spec := "lawS2967AModel", inPlace := ["internal/bytealg.abigen_runtime_cmpstring"], apart := false }
def LawS2967AModelSaid : Prop := lawS2967AModelRow.holds Yba.pinned (OpenSpec.ofChange lawS2967AModelSpec)

/-- ITS FALSE NEIGHBOUR: 'it returns false'. Refute it at one input. -/
def lawS2967AModelWrong : ChangeSpec := { name := "lawS2967AModel", fn := fun _ => fun
  | [d1, d2] => { results := [.lit (.bool false)], args := [d1, d2] }
  | _ => none }
def LawS2967AModelWrongFalsely : Prop := lawS2967AModelRow.holds Yba.pinned (OpenSpec.ofChange lawS2967AModelWrong)

/-- 'rollstep.LawS2967ASameZone': WHATEVER THE INPUT: true; the input reads as it did. -/
def lawS2967ASameZoneSpec : ChangeSpec := { name := "lawS2967ASameZone", fn := fun _ => fun
  | [d1, d2, d3, d4] => { results := [.lit (.bool true)], args := [d1, d2, d3, d4] }
  | _ => none }
def lawS2967ASameZoneRow : OpenClaim := { program := "ybulkbikq", sum := "4bfa1a2a5c635a08bd380aae520391a607358a3be7e0077c603908e4aaa9437d", func := "example.com/rollstep/rollstep.LawS2967ASameZone", spec := "lawS2967ASameZone", inPlace := ["internal/bytealg.abigen_runtime_cmpstring"], apart := false }
def LawS2967ASameZoneSaid : Prop := lawS2967ASameZoneRow.holds Yba.pinned (OpenSpec.ofChange lawS2967ASameZoneSpec)

/-- ITS FALSE NEIGHBOUR: 'it returns false'. Refute it at one input. -/
def lawS2967ASameZoneWrong : ChangeSpec := { name := "lawS2967ASameZone", fn := fun _ => fun
  | [d1, d2, d3, d4] => { results := [.lit (.bool false)], args := [d1, d2, d3, d4] }
  | _ => none }
def LawS2967ASameZoneWrongFalsely : Prop := lawS2967ASameZoneRow.holds Yba.pinned (OpenSpec.ofChange lawS2967ASameZoneWrong)

/-- 'rollstep.LawS2967CIndices': WHATEVER THE INPUT: true; the input reads as it did. -/
def lawS2967CIndicesSpec : ChangeSpec := { name := "lawS2967CIndices", fn := fun _ => fun
  | [d1, d2] => { results := [.lit (.bool true)], args := [d1, d2] }
  | _ => none }
def lawS2967CIndicesRow : OpenClaim := { program := "ybulkbikq", sum := "4bfa1a2a5c635a08bd380aae520391a607358a3be7e0077c603908e4aaa9437d", func := "example.com/rollstep/rollstep.LawS2967CIndices", spec := "lawS2967CIndices", apart := false }
def LawS2967CIndicesSaid : Prop := lawS2967CIndicesRow.holds Yba.pinned (OpenSpec.ofChange lawS2967CIndicesSpec)

/-- ITS FALSE NEIGHBOUR: 'it returns false'. Refute it at one input. -/
def lawS2967CIndicesWrong : ChangeSpec := { name := "lawS2967CIndices", fn := fun _ => fun
  | [d1, d2] => { results := [.lit (.bool false)], args := [d1, d2] }
  | _ => none }
def LawS2967CIndicesWrongFalsely : Prop := lawS2967CIndicesRow.holds Yba.pinned (OpenSpec.ofChange lawS2967CIndicesWrong)

/-- 'rollstep.LawS2967CPicked': WHATEVER THE INPUT: true; the input reads as it did. -/
def lawS2967CPickedSpec : ChangeSpec := { name := "lawS2967CPicked", fn := fun _ => fun
  | [d1, d2] => { results := [.lit (.bool true)], args := [d1, d2] }
  | _ => none }
def lawS2967CPickedRow : OpenClaim := { program := "ybulkbikq", sum := "4bfa1a2a5c635a08bd380aae520391a607358a3be7e0077c603908e4aaa9437d", func := "example.com/rollstep/rollstep.LawS2967CPicked", spec := "lawS2967CPicked", apart := false }
def LawS2967CPickedSaid : Prop := lawS2967CPickedRow.holds Yba.pinned (OpenSpec.ofChange lawS2967CPickedSpec)

/-- ITS FALSE NEIGHBOUR: 'it returns false'. Refute it at one input. -/
def lawS2967CPickedWrong : ChangeSpec := { name := "lawS2967CPicked", fn := fun _ => fun
  | [d1, d2] => { results := [.lit (.bool false)], args := [d1, d2] }
  | _ => none }
def LawS2967CPickedWrongFalsely : Prop := lawS2967CPickedRow.holds Yba.pinned (OpenSpec.ofChange lawS2967CPickedWrong)

end Rows
end Go.Proofs.Ybulkbikq
