/-
  No cell of these rows narrows 'for every input' (looked for: loops, veiled, ifaces, maps, wideKeys, modest, calm, conditions, laid).
  DERIVED. THE GIVEN ROWS OF THIS SEAT. 5 by the template 'for every input the law returns true; each argument reads behind the call as it read before'; 0 by the template 'total and deterministic' (their statements: Qxb6602644aTotals.lean).
  GIVEN WITH THE SEED: the statements are not yours to turn. If you find one false, say at which input.
  Laid BY PROGRAM, IN A SANDBOX (cutbox-rows.mjs): the forced cells as the released guide's own fill.sh prints them over the translation 7b138e838037fff6… (all of the seat's roots in one cut). By AI agents, Wed Nov 11 2026. No macro, syntax, notation, axiom, sorry.
-/
import Derived.Test.Qxb6602644aChecked
import GoSem.Claim
import GoSem.ClaimJoined
import GoSem.ClaimMapViews
import Derived.JoinedTies
import Derived.KernelRfl
namespace Go.Proofs.Qxb6602644a
/- THE CELL 'sum', in the pinned program and in every row, IS THE sha256 OF THE DUMP (.gsa) THAT Qxb6602644aProg.lean LOADS. Nothing in Lean hashes anything: it is a label: what it is worth is what the hold of that sum in a sandbox is worth. -/
noncomputable def Try.pinned : Pinned := { name := "qxb6602644a", sum := "7b138e838037fff6d9e62c03ea904be4acd7cd779847651034bb6fccb06a192a", checked := Try.checked }
namespace Rows
def none {H : Type} : Left H := { results := [], args := [] }

/-- 'zzlaws_root_b1.FnIsUUIDMatchesGroupModel': WHATEVER THE INPUT: true; the input reads as it did. -/
def fnIsUUIDMatchesGroupModelSpec : ChangeSpec := { name := "fnIsUUIDMatchesGroupModel", fn := fun _ => fun
  | [d] => { results := [.lit (.bool true)], args := [d] }
  | _ => none }
def fnIsUUIDMatchesGroupModelRow : OpenClaim := { program := "qxb6602644a", sum := "7b138e838037fff6d9e62c03ea904be4acd7cd779847651034bb6fccb06a192a", func := "example.com/sagaline/sagaline/zzlaws_root_b1.FnIsUUIDMatchesGroupModel", spec := "fnIsUUIDMatchesGroupModel", apart := false }
def FnIsUUIDMatchesGroupModelSaid : Prop := fnIsUUIDMatchesGroupModelRow.holds Try.pinned (OpenSpec.ofChange fnIsUUIDMatchesGroupModelSpec)

/-- ITS FALSE NEIGHBOUR: 'it returns false'. Refute it at one input. -/
def fnIsUUIDMatchesGroupModelWrong : ChangeSpec := { name := "fnIsUUIDMatchesGroupModel", fn := fun _ => fun
  | [d] => { results := [.lit (.bool false)], args := [d] }
  | _ => none }
def FnIsUUIDMatchesGroupModelWrongFalsely : Prop := fnIsUUIDMatchesGroupModelRow.holds Try.pinned (OpenSpec.ofChange fnIsUUIDMatchesGroupModelWrong)

/-- 'zzlaws_root_b1.FnIsUUIDAcceptsEveryFormattedUUID': WHATEVER THE INPUT: true; the input reads as it did. -/
def fnIsUUIDAcceptsEveryFormattedUUIDSpec : ChangeSpec := { name := "fnIsUUIDAcceptsEveryFormattedUUID", fn := fun _ => fun
  | [d1, d2] => { results := [.lit (.bool true)], args := [d1, d2] }
  | _ => none }
def fnIsUUIDAcceptsEveryFormattedUUIDRow : OpenClaim := { program := "qxb6602644a", sum := "7b138e838037fff6d9e62c03ea904be4acd7cd779847651034bb6fccb06a192a", func := "example.com/sagaline/sagaline/zzlaws_root_b1.FnIsUUIDAcceptsEveryFormattedUUID", spec := "fnIsUUIDAcceptsEveryFormattedUUID", apart := false }
def FnIsUUIDAcceptsEveryFormattedUUIDSaid : Prop := fnIsUUIDAcceptsEveryFormattedUUIDRow.holds Try.pinned (OpenSpec.ofChange fnIsUUIDAcceptsEveryFormattedUUIDSpec)

/-- ITS FALSE NEIGHBOUR: 'it returns false'. Refute it at one input. -/
def fnIsUUIDAcceptsEveryFormattedUUIDWrong : ChangeSpec := { name := "fnIsUUIDAcceptsEveryFormattedUUID", fn := fun _ => fun
  | [d1, d2] => { results := [.lit (.bool false)], args := [d1, d2] }
  | _ => none }
def FnIsUUIDAcceptsEveryFormattedUUIDWrongFalsely : Prop := fnIsUUIDAcceptsEveryFormattedUUIDRow.holds Try.pinned (OpenSpec.ofChange fnIsUUIDAcceptsEveryFormattedUUIDWrong)

/-- 'zzlaws_root_b1.FnIsUUIDIgnoresASCIICase': WHATEVER THE INPUT: true; the input reads as it did. -/
def fnIsUUIDIgnoresASCIICaseSpec : ChangeSpec := { name := "fnIsUUIDIgnoresASCIICase", fn := fun _ => fun
  | [d] => { results := [.lit (.bool true)], args := [d] }
  | _ => none }
def fnIsUUIDIgnoresASCIICaseRow : OpenClaim := { program := "qxb6602644a", sum := "7b138e838037fff6d9e62c03ea904be4acd7cd779847651034bb6fccb06a192a", func := "example.com/sagaline/sagaline/zzlaws_root_b1.FnIsUUIDIgnoresASCIICase", spec := "fnIsUUIDIgnoresASCIICase", apart := false }
def FnIsUUIDIgnoresASCIICaseSaid : Prop := fnIsUUIDIgnoresASCIICaseRow.holds Try.pinned (OpenSpec.ofChange fnIsUUIDIgnoresASCIICaseSpec)

/-- ITS FALSE NEIGHBOUR: 'it returns false'. Refute it at one input. -/
def fnIsUUIDIgnoresASCIICaseWrong : ChangeSpec := { name := "fnIsUUIDIgnoresASCIICase", fn := fun _ => fun
  | [d] => { results := [.lit (.bool false)], args := [d] }
  | _ => none }
def FnIsUUIDIgnoresASCIICaseWrongFalsely : Prop := fnIsUUIDIgnoresASCIICaseRow.holds Try.pinned (OpenSpec.ofChange fnIsUUIDIgnoresASCIICaseWrong)

/-- 'zzlaws_root_b1.FnNumberExponentMatchesDigitModel': WHATEVER THE INPUT: true; the input reads as it did. -/
def fnNumberExponentMatchesDigitModelSpec : ChangeSpec := { name := "fnNumberExponentMatchesDigitModel", fn := fun _ => fun
  | [d] => { results := [.lit (.bool true)], args := [d] }
  | _ => none }
def fnNumberExponentMatchesDigitModelRow : OpenClaim := { program := "qxb6602644a", sum := "7b138e838037fff6d9e62c03ea904be4acd7cd779847651034bb6fccb06a192a", func := "example.com/sagaline/sagaline/zzlaws_root_b1.FnNumberExponentMatchesDigitModel", spec := "fnNumberExponentMatchesDigitModel", apart := false }
def FnNumberExponentMatchesDigitModelSaid : Prop := fnNumberExponentMatchesDigitModelRow.holds Try.pinned (OpenSpec.ofChange fnNumberExponentMatchesDigitModelSpec)

/-- ITS FALSE NEIGHBOUR: 'it returns false'. Refute it at one input. -/
def fnNumberExponentMatchesDigitModelWrong : ChangeSpec := { name := "fnNumberExponentMatchesDigitModel", fn := fun _ => fun
  | [d] => { results := [.lit (.bool false)], args := [d] }
  | _ => none }
def FnNumberExponentMatchesDigitModelWrongFalsely : Prop := fnNumberExponentMatchesDigitModelRow.holds Try.pinned (OpenSpec.ofChange fnNumberExponentMatchesDigitModelWrong)

/-- 'zzlaws_root_b1.FnNumberExponentReadsBackFormattedInt': WHATEVER THE INPUT: true; the input reads as it did. -/
def fnNumberExponentReadsBackFormattedIntSpec : ChangeSpec := { name := "fnNumberExponentReadsBackFormattedInt", fn := fun _ => fun
  | [d1, d2, d3] => { results := [.lit (.bool true)], args := [d1, d2, d3] }
  | _ => none }
def fnNumberExponentReadsBackFormattedIntRow : OpenClaim := { program := "qxb6602644a", sum := "7b138e838037fff6d9e62c03ea904be4acd7cd779847651034bb6fccb06a192a", func := "example.com/sagaline/sagaline/zzlaws_root_b1.FnNumberExponentReadsBackFormattedInt", spec := "fnNumberExponentReadsBackFormattedInt", apart := false }
def FnNumberExponentReadsBackFormattedIntSaid : Prop := fnNumberExponentReadsBackFormattedIntRow.holds Try.pinned (OpenSpec.ofChange fnNumberExponentReadsBackFormattedIntSpec)

/-- ITS FALSE NEIGHBOUR: 'it returns false'. Refute it at one input. -/
def fnNumberExponentReadsBackFormattedIntWrong : ChangeSpec := { name := "fnNumberExponentReadsBackFormattedInt", fn := fun _ => fun
  | [d1, d2, d3] => { results := [.lit (.bool false)], args := [d1, d2, d3] }
  | _ => none }
def FnNumberExponentReadsBackFormattedIntWrongFalsely : Prop := fnNumberExponentReadsBackFormattedIntRow.holds Try.pinned (OpenSpec.ofChange fnNumberExponentReadsBackFormattedIntWrong)

end Rows
end Go.Proofs.Qxb6602644a
