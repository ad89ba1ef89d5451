/-
  No cell of these rows narrows 'for every input' (looked for: loops, veiled, ifaces, maps, wideKeys, modest, calm, conditions, laid).
  DERIVED. THE GIVEN ROWS OF THIS SEAT. 3 by the template 'for every input the law returns true; each argument reads behind the call as it read before'; 0 by the template 'total and deterministic' (their statements: Qxb6002792aTotals.lean).
  GIVEN WITH THE SEED: the statements are not yours to turn. If you find one false, say at which input.
  Laid BY PROGRAM, IN A SANDBOX (cutbox-rows.mjs): the forced cells as the released guide's own fill.sh prints them over the translation f04b8d98e0aa98fd… (all of the seat's roots in one cut). By AI agents, Wed Nov 11 2026. No macro, syntax, notation, axiom, sorry.
-/
import Derived.Test.Qxb6002792aChecked
import GoSem.Claim
import GoSem.ClaimJoined
import GoSem.ClaimMapViews
import Derived.JoinedTies
import Derived.KernelRfl
namespace Go.Proofs.Qxb6002792a
/- THE CELL 'sum', in the pinned program and in every row, IS THE sha256 OF THE DUMP (.gsa) THAT Qxb6002792aProg.lean LOADS. Nothing in Lean hashes anything: it is a label: what it is worth is what the hold of that sum in a sandbox is worth. -/
noncomputable def Try.pinned : Pinned := { name := "qxb6002792a", sum := "f04b8d98e0aa98fd49f4219fc00d3c78be82b797096527bcfe2e2752733f0419", checked := Try.checked }
namespace Rows
def none {H : Type} : Left H := { results := [], args := [] }

/-- 'zzlaws_root_b1.FnSplitReferenceReassembles': WHATEVER THE INPUT: true; the input reads as it did. -/
def fnSplitReferenceReassemblesSpec : ChangeSpec := { name := "fnSplitReferenceReassembles", fn := fun _ => fun
  | [d] => { results := [.lit (.bool true)], args := [d] }
  | _ => none }
def fnSplitReferenceReassemblesRow : OpenClaim := { program := "qxb6002792a", sum := "f04b8d98e0aa98fd49f4219fc00d3c78be82b797096527bcfe2e2752733f0419", func := "example.com/terrarium-rig/terrarium-rig/zzlaws_root_b1.FnSplitReferenceReassembles", spec := "fnSplitReferenceReassembles", inPlace := ["internal/bytealg.IndexByteString", "internal/bytealg.IndexString"], named := ["internal/bytealg.MaxLen"], apart := false }
def FnSplitReferenceReassemblesSaid : Prop := fnSplitReferenceReassemblesRow.holds Try.pinned (OpenSpec.ofChange fnSplitReferenceReassemblesSpec)

/-- ITS FALSE NEIGHBOUR: 'it returns false'. Refute it at one input. -/
def fnSplitReferenceReassemblesWrong : ChangeSpec := { name := "fnSplitReferenceReassembles", fn := fun _ => fun
  | [d] => { results := [.lit (.bool false)], args := [d] }
  | _ => none }
def FnSplitReferenceReassemblesWrongFalsely : Prop := fnSplitReferenceReassemblesRow.holds Try.pinned (OpenSpec.ofChange fnSplitReferenceReassemblesWrong)

/-- 'zzlaws_root_b1.FnRegistryOfFirstSegment': WHATEVER THE INPUT: true; the input reads as it did. -/
def fnRegistryOfFirstSegmentSpec : ChangeSpec := { name := "fnRegistryOfFirstSegment", fn := fun _ => fun
  | [d] => { results := [.lit (.bool true)], args := [d] }
  | _ => none }
def fnRegistryOfFirstSegmentRow : OpenClaim := { program := "qxb6002792a", sum := "f04b8d98e0aa98fd49f4219fc00d3c78be82b797096527bcfe2e2752733f0419", func := "example.com/terrarium-rig/terrarium-rig/zzlaws_root_b1.FnRegistryOfFirstSegment", spec := "fnRegistryOfFirstSegment", inPlace := ["internal/bytealg.IndexByteString", "internal/bytealg.IndexString"], named := ["internal/bytealg.MaxLen"], apart := false }
def FnRegistryOfFirstSegmentSaid : Prop := fnRegistryOfFirstSegmentRow.holds Try.pinned (OpenSpec.ofChange fnRegistryOfFirstSegmentSpec)

/-- ITS FALSE NEIGHBOUR: 'it returns false'. Refute it at one input. -/
def fnRegistryOfFirstSegmentWrong : ChangeSpec := { name := "fnRegistryOfFirstSegment", fn := fun _ => fun
  | [d] => { results := [.lit (.bool false)], args := [d] }
  | _ => none }
def FnRegistryOfFirstSegmentWrongFalsely : Prop := fnRegistryOfFirstSegmentRow.holds Try.pinned (OpenSpec.ofChange fnRegistryOfFirstSegmentWrong)

/-- 'zzlaws_root_b1.FnReplicaNamesIndexFormula': WHATEVER THE INPUT: true; the input reads as it did. -/
def fnReplicaNamesIndexFormulaSpec : ChangeSpec := { name := "fnReplicaNamesIndexFormula", fn := fun _ => fun
  | [d1, d2, d3, d4] => { results := [.lit (.bool true)], args := [d1, d2, d3, d4] }
  | _ => none }
def fnReplicaNamesIndexFormulaRow : OpenClaim := { program := "qxb6002792a", sum := "f04b8d98e0aa98fd49f4219fc00d3c78be82b797096527bcfe2e2752733f0419", func := "example.com/terrarium-rig/terrarium-rig/zzlaws_root_b1.FnReplicaNamesIndexFormula", spec := "fnReplicaNamesIndexFormula", apart := false }
def FnReplicaNamesIndexFormulaSaid : Prop := fnReplicaNamesIndexFormulaRow.holds Try.pinned (OpenSpec.ofChange fnReplicaNamesIndexFormulaSpec)

/-- ITS FALSE NEIGHBOUR: 'it returns false'. Refute it at one input. -/
def fnReplicaNamesIndexFormulaWrong : ChangeSpec := { name := "fnReplicaNamesIndexFormula", fn := fun _ => fun
  | [d1, d2, d3, d4] => { results := [.lit (.bool false)], args := [d1, d2, d3, d4] }
  | _ => none }
def FnReplicaNamesIndexFormulaWrongFalsely : Prop := fnReplicaNamesIndexFormulaRow.holds Try.pinned (OpenSpec.ofChange fnReplicaNamesIndexFormulaWrong)

end Rows
end Go.Proofs.Qxb6002792a
