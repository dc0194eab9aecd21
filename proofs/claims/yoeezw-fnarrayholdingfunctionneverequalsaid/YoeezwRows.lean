/-
  No cell of these rows narrows 'for every input' (looked for: loops, veiled, ifaces, maps, wideKeys, modest, calm, conditions, laid).
  DERIVED. THE GIVEN ROWS OF THIS SEAT. 6 by the template 'for every input the law returns true; each argument reads behind the call as it read before'; 0 by the template 'total and deterministic' (their statements: YoeezwTotals.lean).
  GIVEN WITH THE SEED: the statements are not yours to turn. If you find one false, say at which input.
  Laid BY PROGRAM, IN A SANDBOX (cutbox-rows.mjs): the forced cells as the released guide's own fill.sh prints them over the translation 9f44c2b5e023f2d4… (all of the seat's roots in one cut). By AI agents, Wed Nov 11 2026. No macro, syntax, notation, axiom, sorry.
-/
import Derived.Test.YoeezwChecked
import GoSem.Claim
import GoSem.ClaimJoined
import GoSem.ClaimMapViews
import Derived.JoinedTies
import Derived.KernelRfl
namespace Go.Proofs.Yoeezw
/- THE CELL 'sum', in the pinned program and in every row, IS THE sha256 OF THE DUMP (.gsa) THAT YoeezwProg.lean LOADS. Nothing in Lean hashes anything: it is a label: what it is worth is what the hold of that sum in a sandbox is worth. -/
noncomputable def Eezg.pinned : Pinned := { name := "yoeezw", sum := "9f44c2b5e023f2d45293ff5ab00cf0301f840016ffa62513f04939fd2bec5f07", checked := Eezg.checked }
namespace Rows
def none {H : Type} : Left H := { results := [], args := [] }

/-- 'zzlaws_root_b2.FnSourcePosMatchesModel': WHATEVER THE INPUT: true; the input reads as it did. -/
def fnSourcePosMatchesModelSpec : ChangeSpec := { name := "fnSourcePosMatchesModel", fn := fun _ => fun
  | [d1, d2, d3] => { results := [.lit (.bool true)], args := [d1, d2, d3] }
  | _ => none }
def fnSourcePosMatchesModelRow : OpenClaim := { program := "yoeezw", sum := "9f44c2b5e023f2d45293ff5ab00cf0301f840016ffa62513f04939fd2bec5f07", func := "github.com/d5/tengo/v2/zzlaws_root_b2.FnSourcePosMatchesModel", spec := "fnSourcePosMatchesModel", apart := false }
def FnSourcePosMatchesModelSaid : Prop := fnSourcePosMatchesModelRow.holds Eezg.pinned (OpenSpec.ofChange fnSourcePosMatchesModelSpec)

/-- ITS FALSE NEIGHBOUR: 'it returns false'. Refute it at one input. -/
def fnSourcePosMatchesModelWrong : ChangeSpec := { name := "fnSourcePosMatchesModel", fn := fun _ => fun
  | [d1, d2, d3] => { results := [.lit (.bool false)], args := [d1, d2, d3] }
  | _ => none }
def FnSourcePosMatchesModelWrongFalsely : Prop := fnSourcePosMatchesModelRow.holds Eezg.pinned (OpenSpec.ofChange fnSourcePosMatchesModelWrong)

/-- 'zzlaws_root_b2.FnSourcePosLocal': WHATEVER THE INPUT: true; the input reads as it did. -/
def fnSourcePosLocalSpec : ChangeSpec := { name := "fnSourcePosLocal", fn := fun _ => fun
  | [d1, d2, d3, d4, d5] => { results := [.lit (.bool true)], args := [d1, d2, d3, d4, d5] }
  | _ => none }
def fnSourcePosLocalRow : OpenClaim := { program := "yoeezw", sum := "9f44c2b5e023f2d45293ff5ab00cf0301f840016ffa62513f04939fd2bec5f07", func := "github.com/d5/tengo/v2/zzlaws_root_b2.FnSourcePosLocal", spec := "fnSourcePosLocal", apart := false }
def FnSourcePosLocalSaid : Prop := fnSourcePosLocalRow.holds Eezg.pinned (OpenSpec.ofChange fnSourcePosLocalSpec)

/-- ITS FALSE NEIGHBOUR: 'it returns false'. Refute it at one input. -/
def fnSourcePosLocalWrong : ChangeSpec := { name := "fnSourcePosLocal", fn := fun _ => fun
  | [d1, d2, d3, d4, d5] => { results := [.lit (.bool false)], args := [d1, d2, d3, d4, d5] }
  | _ => none }
def FnSourcePosLocalWrongFalsely : Prop := fnSourcePosLocalRow.holds Eezg.pinned (OpenSpec.ofChange fnSourcePosLocalWrong)

/-- 'zzlaws_root_b2.FnCopyExactFields': WHATEVER THE INPUT: true; the input reads as it did. -/
def fnCopyExactFieldsSpec : ChangeSpec := { name := "fnCopyExactFields", fn := fun _ => fun
  | [d1, d2, d3, d4, d5, d6, d7] => { results := [.lit (.bool true)], args := [d1, d2, d3, d4, d5, d6, d7] }
  | _ => none }
def fnCopyExactFieldsRow : OpenClaim := { program := "yoeezw", sum := "9f44c2b5e023f2d45293ff5ab00cf0301f840016ffa62513f04939fd2bec5f07", func := "github.com/d5/tengo/v2/zzlaws_root_b2.FnCopyExactFields", spec := "fnCopyExactFields", apart := false }
def FnCopyExactFieldsSaid : Prop := fnCopyExactFieldsRow.holds Eezg.pinned (OpenSpec.ofChange fnCopyExactFieldsSpec)

/-- ITS FALSE NEIGHBOUR: 'it returns false'. Refute it at one input. -/
def fnCopyExactFieldsWrong : ChangeSpec := { name := "fnCopyExactFields", fn := fun _ => fun
  | [d1, d2, d3, d4, d5, d6, d7] => { results := [.lit (.bool false)], args := [d1, d2, d3, d4, d5, d6, d7] }
  | _ => none }
def FnCopyExactFieldsWrongFalsely : Prop := fnCopyExactFieldsRow.holds Eezg.pinned (OpenSpec.ofChange fnCopyExactFieldsWrong)

/-- 'zzlaws_root_b2.FnCopyIsIndependent': WHATEVER THE INPUT: true; the input reads as it did. -/
def fnCopyIsIndependentSpec : ChangeSpec := { name := "fnCopyIsIndependent", fn := fun _ => fun
  | [d1, d2, d3] => { results := [.lit (.bool true)], args := [d1, d2, d3] }
  | _ => none }
def fnCopyIsIndependentRow : OpenClaim := { program := "yoeezw", sum := "9f44c2b5e023f2d45293ff5ab00cf0301f840016ffa62513f04939fd2bec5f07", func := "github.com/d5/tengo/v2/zzlaws_root_b2.FnCopyIsIndependent", spec := "fnCopyIsIndependent", apart := false }
def FnCopyIsIndependentSaid : Prop := fnCopyIsIndependentRow.holds Eezg.pinned (OpenSpec.ofChange fnCopyIsIndependentSpec)

/-- ITS FALSE NEIGHBOUR: 'it returns false'. Refute it at one input. -/
def fnCopyIsIndependentWrong : ChangeSpec := { name := "fnCopyIsIndependent", fn := fun _ => fun
  | [d1, d2, d3] => { results := [.lit (.bool false)], args := [d1, d2, d3] }
  | _ => none }
def FnCopyIsIndependentWrongFalsely : Prop := fnCopyIsIndependentRow.holds Eezg.pinned (OpenSpec.ofChange fnCopyIsIndependentWrong)

/-- 'zzlaws_root_b2.FnCopyDropsSourceMap': WHATEVER THE INPUT: true; the input reads as it did. -/
def fnCopyDropsSourceMapSpec : ChangeSpec := { name := "fnCopyDropsSourceMap", fn := fun _ => fun
  | [d1, d2, d3, d4] => { results := [.lit (.bool true)], args := [d1, d2, d3, d4] }
  | _ => none }
def fnCopyDropsSourceMapRow : OpenClaim := { program := "yoeezw", sum := "9f44c2b5e023f2d45293ff5ab00cf0301f840016ffa62513f04939fd2bec5f07", func := "github.com/d5/tengo/v2/zzlaws_root_b2.FnCopyDropsSourceMap", spec := "fnCopyDropsSourceMap", apart := false }
def FnCopyDropsSourceMapSaid : Prop := fnCopyDropsSourceMapRow.holds Eezg.pinned (OpenSpec.ofChange fnCopyDropsSourceMapSpec)

/-- ITS FALSE NEIGHBOUR: 'it returns false'. Refute it at one input. -/
def fnCopyDropsSourceMapWrong : ChangeSpec := { name := "fnCopyDropsSourceMap", fn := fun _ => fun
  | [d1, d2, d3, d4] => { results := [.lit (.bool false)], args := [d1, d2, d3, d4] }
  | _ => none }
def FnCopyDropsSourceMapWrongFalsely : Prop := fnCopyDropsSourceMapRow.holds Eezg.pinned (OpenSpec.ofChange fnCopyDropsSourceMapWrong)

/-- 'zzlaws_root_b2.FnArrayHoldingFunctionNeverEqual': WHATEVER THE INPUT: true; the input reads as it did. -/
def fnArrayHoldingFunctionNeverEqualSpec : ChangeSpec := { name := "fnArrayHoldingFunctionNeverEqual", fn := fun _ => fun
  | [d1, d2] => { results := [.lit (.bool true)], args := [d1, d2] }
  | _ => none }
def fnArrayHoldingFunctionNeverEqualRow : OpenClaim := { program := "yoeezw", sum := "9f44c2b5e023f2d45293ff5ab00cf0301f840016ffa62513f04939fd2bec5f07", func := "github.com/d5/tengo/v2/zzlaws_root_b2.FnArrayHoldingFunctionNeverEqual", spec := "fnArrayHoldingFunctionNeverEqual", unfollowed := true, recurses := true, apart := false }
def FnArrayHoldingFunctionNeverEqualSaid : Prop := fnArrayHoldingFunctionNeverEqualRow.holds Eezg.pinned (OpenSpec.ofChange fnArrayHoldingFunctionNeverEqualSpec)

/-- ITS FALSE NEIGHBOUR: 'it returns false'. Refute it at one input. -/
def fnArrayHoldingFunctionNeverEqualWrong : ChangeSpec := { name := "fnArrayHoldingFunctionNeverEqual", fn := fun _ => fun
  | [d1, d2] => { results := [.lit (.bool false)], args := [d1, d2] }
  | _ => none }
def FnArrayHoldingFunctionNeverEqualWrongFalsely : Prop := fnArrayHoldingFunctionNeverEqualRow.holds Eezg.pinned (OpenSpec.ofChange fnArrayHoldingFunctionNeverEqualWrong)

end Rows
end Go.Proofs.Yoeezw
