/-
  No cell of these rows narrows 'for every input' (looked for: loops, veiled, ifaces, maps, wideKeys, modest, calm, conditions, laid).
  DERIVED. THE GIVEN ROWS OF THIS SEAT. 6 by the template 'for every input the law returns true; each argument reads behind the call as it read before'; 0 by the template 'total and deterministic' (their statements: Qxb6601726aTotals.lean).
  GIVEN WITH THE SEED: the statements are not yours to turn. If you find one false, say at which input.
  Laid BY PROGRAM, IN A SANDBOX (cutbox-rows.mjs): the forced cells as the released guide's own fill.sh prints them over the translation 9b682b6325af2323… (all of the seat's roots in one cut). By AI agents, Wed Nov 11 2026. No macro, syntax, notation, axiom, sorry.
-/
import Derived.Test.Qxb6601726aChecked
import GoSem.Claim
import GoSem.ClaimJoined
import GoSem.ClaimMapViews
import Derived.JoinedTies
import Derived.KernelRfl
namespace Go.Proofs.Qxb6601726a
/- THE CELL 'sum', in the pinned program and in every row, IS THE sha256 OF THE DUMP (.gsa) THAT Qxb6601726aProg.lean LOADS. Nothing in Lean hashes anything: it is a label: what it is worth is what the hold of that sum in a sandbox is worth. -/
noncomputable def Try.pinned : Pinned := { name := "qxb6601726a", sum := "9b682b6325af23236661f49b6d01111c2ebaccb484fc825b81be8d6bf7f17ca6", checked := Try.checked }
namespace Rows
def none {H : Type} : Left H := { results := [], args := [] }

/-- 'zzlaws_internal_agent_b1.FnDigitsOfDecodesBack': WHATEVER THE INPUT: true; the input reads as it did. -/
def fnDigitsOfDecodesBackSpec : ChangeSpec := { name := "fnDigitsOfDecodesBack", fn := fun _ => fun
  | [d] => { results := [.lit (.bool true)], args := [d] }
  | _ => none }
def fnDigitsOfDecodesBackRow : OpenClaim := { program := "qxb6601726a", sum := "9b682b6325af23236661f49b6d01111c2ebaccb484fc825b81be8d6bf7f17ca6", func := "example.com/crankshaft/crankshaft/zzlaws_internal_agent_b1.FnDigitsOfDecodesBack", spec := "fnDigitsOfDecodesBack", apart := false }
def FnDigitsOfDecodesBackSaid : Prop := fnDigitsOfDecodesBackRow.holds Try.pinned (OpenSpec.ofChange fnDigitsOfDecodesBackSpec)

/-- ITS FALSE NEIGHBOUR: 'it returns false'. Refute it at one input. -/
def fnDigitsOfDecodesBackWrong : ChangeSpec := { name := "fnDigitsOfDecodesBack", fn := fun _ => fun
  | [d] => { results := [.lit (.bool false)], args := [d] }
  | _ => none }
def FnDigitsOfDecodesBackWrongFalsely : Prop := fnDigitsOfDecodesBackRow.holds Try.pinned (OpenSpec.ofChange fnDigitsOfDecodesBackWrong)

/-- 'zzlaws_internal_agent_b1.FnDigitsOfKeepsOrder': WHATEVER THE INPUT: true; the input reads as it did. -/
def fnDigitsOfKeepsOrderSpec : ChangeSpec := { name := "fnDigitsOfKeepsOrder", fn := fun _ => fun
  | [d1, d2] => { results := [.lit (.bool true)], args := [d1, d2] }
  | _ => none }
def fnDigitsOfKeepsOrderRow : OpenClaim := { program := "qxb6601726a", sum := "9b682b6325af23236661f49b6d01111c2ebaccb484fc825b81be8d6bf7f17ca6", func := "example.com/crankshaft/crankshaft/zzlaws_internal_agent_b1.FnDigitsOfKeepsOrder", spec := "fnDigitsOfKeepsOrder", apart := false }
def FnDigitsOfKeepsOrderSaid : Prop := fnDigitsOfKeepsOrderRow.holds Try.pinned (OpenSpec.ofChange fnDigitsOfKeepsOrderSpec)

/-- ITS FALSE NEIGHBOUR: 'it returns false'. Refute it at one input. -/
def fnDigitsOfKeepsOrderWrong : ChangeSpec := { name := "fnDigitsOfKeepsOrder", fn := fun _ => fun
  | [d1, d2] => { results := [.lit (.bool false)], args := [d1, d2] }
  | _ => none }
def FnDigitsOfKeepsOrderWrongFalsely : Prop := fnDigitsOfKeepsOrderRow.holds Try.pinned (OpenSpec.ofChange fnDigitsOfKeepsOrderWrong)

/-- 'zzlaws_internal_agent_b1.FnWordSetFindIsFirstMatch': WHATEVER THE INPUT: true; the input reads as it did. -/
def fnWordSetFindIsFirstMatchSpec : ChangeSpec := { name := "fnWordSetFindIsFirstMatch", fn := fun _ => fun
  | [d1, d2, d3] => { results := [.lit (.bool true)], args := [d1, d2, d3] }
  | _ => none }
def fnWordSetFindIsFirstMatchRow : OpenClaim := { program := "qxb6601726a", sum := "9b682b6325af23236661f49b6d01111c2ebaccb484fc825b81be8d6bf7f17ca6", func := "example.com/crankshaft/crankshaft/zzlaws_internal_agent_b1.FnWordSetFindIsFirstMatch", spec := "fnWordSetFindIsFirstMatch", apart := false }
def FnWordSetFindIsFirstMatchSaid : Prop := fnWordSetFindIsFirstMatchRow.holds Try.pinned (OpenSpec.ofChange fnWordSetFindIsFirstMatchSpec)

/-- ITS FALSE NEIGHBOUR: 'it returns false'. Refute it at one input. -/
def fnWordSetFindIsFirstMatchWrong : ChangeSpec := { name := "fnWordSetFindIsFirstMatch", fn := fun _ => fun
  | [d1, d2, d3] => { results := [.lit (.bool false)], args := [d1, d2, d3] }
  | _ => none }
def FnWordSetFindIsFirstMatchWrongFalsely : Prop := fnWordSetFindIsFirstMatchRow.holds Try.pinned (OpenSpec.ofChange fnWordSetFindIsFirstMatchWrong)

/-- 'zzlaws_internal_agent_b1.FnWordSetFindResumes': WHATEVER THE INPUT: true; the input reads as it did. -/
def fnWordSetFindResumesSpec : ChangeSpec := { name := "fnWordSetFindResumes", fn := fun _ => fun
  | [d1, d2, d3, d4] => { results := [.lit (.bool true)], args := [d1, d2, d3, d4] }
  | _ => none }
def fnWordSetFindResumesRow : OpenClaim := { program := "qxb6601726a", sum := "9b682b6325af23236661f49b6d01111c2ebaccb484fc825b81be8d6bf7f17ca6", func := "example.com/crankshaft/crankshaft/zzlaws_internal_agent_b1.FnWordSetFindResumes", spec := "fnWordSetFindResumes", apart := false }
def FnWordSetFindResumesSaid : Prop := fnWordSetFindResumesRow.holds Try.pinned (OpenSpec.ofChange fnWordSetFindResumesSpec)

/-- ITS FALSE NEIGHBOUR: 'it returns false'. Refute it at one input. -/
def fnWordSetFindResumesWrong : ChangeSpec := { name := "fnWordSetFindResumes", fn := fun _ => fun
  | [d1, d2, d3, d4] => { results := [.lit (.bool false)], args := [d1, d2, d3, d4] }
  | _ => none }
def FnWordSetFindResumesWrongFalsely : Prop := fnWordSetFindResumesRow.holds Try.pinned (OpenSpec.ofChange fnWordSetFindResumesWrong)

/-- 'zzlaws_internal_agent_b1.FnWordSetOrderFree': WHATEVER THE INPUT: true; the input reads as it did. -/
def fnWordSetOrderFreeSpec : ChangeSpec := { name := "fnWordSetOrderFree", fn := fun _ => fun
  | [d1, d2, d3] => { results := [.lit (.bool true)], args := [d1, d2, d3] }
  | _ => none }
def fnWordSetOrderFreeRow : OpenClaim := { program := "qxb6601726a", sum := "9b682b6325af23236661f49b6d01111c2ebaccb484fc825b81be8d6bf7f17ca6", func := "example.com/crankshaft/crankshaft/zzlaws_internal_agent_b1.FnWordSetOrderFree", spec := "fnWordSetOrderFree", apart := false }
def FnWordSetOrderFreeSaid : Prop := fnWordSetOrderFreeRow.holds Try.pinned (OpenSpec.ofChange fnWordSetOrderFreeSpec)

/-- ITS FALSE NEIGHBOUR: 'it returns false'. Refute it at one input. -/
def fnWordSetOrderFreeWrong : ChangeSpec := { name := "fnWordSetOrderFree", fn := fun _ => fun
  | [d1, d2, d3] => { results := [.lit (.bool false)], args := [d1, d2, d3] }
  | _ => none }
def FnWordSetOrderFreeWrongFalsely : Prop := fnWordSetOrderFreeRow.holds Try.pinned (OpenSpec.ofChange fnWordSetOrderFreeWrong)

/-- 'zzlaws_internal_agent_b1.FnWordSetCaseFree': WHATEVER THE INPUT: true; the input reads as it did. -/
def fnWordSetCaseFreeSpec : ChangeSpec := { name := "fnWordSetCaseFree", fn := fun _ => fun
  | [d1, d2, d3] => { results := [.lit (.bool true)], args := [d1, d2, d3] }
  | _ => none }
def fnWordSetCaseFreeRow : OpenClaim := { program := "qxb6601726a", sum := "9b682b6325af23236661f49b6d01111c2ebaccb484fc825b81be8d6bf7f17ca6", func := "example.com/crankshaft/crankshaft/zzlaws_internal_agent_b1.FnWordSetCaseFree", spec := "fnWordSetCaseFree", apart := false }
def FnWordSetCaseFreeSaid : Prop := fnWordSetCaseFreeRow.holds Try.pinned (OpenSpec.ofChange fnWordSetCaseFreeSpec)

/-- ITS FALSE NEIGHBOUR: 'it returns false'. Refute it at one input. -/
def fnWordSetCaseFreeWrong : ChangeSpec := { name := "fnWordSetCaseFree", fn := fun _ => fun
  | [d1, d2, d3] => { results := [.lit (.bool false)], args := [d1, d2, d3] }
  | _ => none }
def FnWordSetCaseFreeWrongFalsely : Prop := fnWordSetCaseFreeRow.holds Try.pinned (OpenSpec.ofChange fnWordSetCaseFreeWrong)

end Rows
end Go.Proofs.Qxb6601726a
