/-
  No cell of these rows narrows 'for every input' (looked for: loops, veiled, ifaces, maps, wideKeys, modest, calm, conditions, laid).
  DERIVED. THE GIVEN ROWS OF THIS SEAT. 8 by the template 'for every input the law returns true; each argument reads behind the call as it read before'; 0 by the template 'total and deterministic' (their statements: YoedhwTotals.lean).
  GIVEN WITH THE SEED: the statements are not yours to turn. If you find one false, say at which input.
  Laid BY PROGRAM, IN A SANDBOX (cutbox-rows.mjs): the forced cells as the released guide's own fill.sh prints them over the translation 02cc4940d6c35bd2… (all of the seat's roots in one cut). By AI agents, Wed Nov 11 2026. No macro, syntax, notation, axiom, sorry.
-/
import Derived.Test.YoedhwChecked
import GoSem.Claim
import GoSem.ClaimJoined
import GoSem.ClaimMapViews
import Derived.JoinedTies
import Derived.KernelRfl
namespace Go.Proofs.Yoedhw
/- THE CELL 'sum', in the pinned program and in every row, IS THE sha256 OF THE DUMP (.gsa) THAT YoedhwProg.lean LOADS. Nothing in Lean hashes anything: it is a label: what it is worth is what the hold of that sum in a sandbox is worth. -/
noncomputable def Edhg.pinned : Pinned := { name := "yoedhw", sum := "02cc4940d6c35bd218b19db83f15ef116df7287fb72f22d320777c003c0f05cf", checked := Edhg.checked }
namespace Rows
def none {H : Type} : Left H := { results := [], args := [] }

/-- 'zzlaws_parser_b48.FnSetPositionMatchesLinearModel': WHATEVER THE INPUT: true; the input reads as it did. -/
def fnSetPositionMatchesLinearModelSpec : ChangeSpec := { name := "fnSetPositionMatchesLinearModel", fn := fun _ => fun
  | [d1, d2, d3] => { results := [.lit (.bool true)], args := [d1, d2, d3] }
  | _ => none }
def fnSetPositionMatchesLinearModelRow : OpenClaim := { program := "yoedhw", sum := "02cc4940d6c35bd218b19db83f15ef116df7287fb72f22d320777c003c0f05cf", func := "github.com/d5/tengo/v2/zzlaws_parser_b48.FnSetPositionMatchesLinearModel", spec := "fnSetPositionMatchesLinearModel", unfollowed := true, recurses := true, apart := false }
def FnSetPositionMatchesLinearModelSaid : Prop := fnSetPositionMatchesLinearModelRow.holds Edhg.pinned (OpenSpec.ofChange fnSetPositionMatchesLinearModelSpec)

/-- ITS FALSE NEIGHBOUR: 'it returns false'. Refute it at one input. -/
def fnSetPositionMatchesLinearModelWrong : ChangeSpec := { name := "fnSetPositionMatchesLinearModel", fn := fun _ => fun
  | [d1, d2, d3] => { results := [.lit (.bool false)], args := [d1, d2, d3] }
  | _ => none }
def FnSetPositionMatchesLinearModelWrongFalsely : Prop := fnSetPositionMatchesLinearModelRow.holds Edhg.pinned (OpenSpec.ofChange fnSetPositionMatchesLinearModelWrong)

/-- 'zzlaws_parser_b48.FnSetPositionInvertsFileSetPos': WHATEVER THE INPUT: true; the input reads as it did. -/
def fnSetPositionInvertsFileSetPosSpec : ChangeSpec := { name := "fnSetPositionInvertsFileSetPos", fn := fun _ => fun
  | [d1, d2] => { results := [.lit (.bool true)], args := [d1, d2] }
  | _ => none }
def fnSetPositionInvertsFileSetPosRow : OpenClaim := { program := "yoedhw", sum := "02cc4940d6c35bd218b19db83f15ef116df7287fb72f22d320777c003c0f05cf", func := "github.com/d5/tengo/v2/zzlaws_parser_b48.FnSetPositionInvertsFileSetPos", spec := "fnSetPositionInvertsFileSetPos", unfollowed := true, recurses := true, apart := false }
def FnSetPositionInvertsFileSetPosSaid : Prop := fnSetPositionInvertsFileSetPosRow.holds Edhg.pinned (OpenSpec.ofChange fnSetPositionInvertsFileSetPosSpec)

/-- ITS FALSE NEIGHBOUR: 'it returns false'. Refute it at one input. -/
def fnSetPositionInvertsFileSetPosWrong : ChangeSpec := { name := "fnSetPositionInvertsFileSetPos", fn := fun _ => fun
  | [d1, d2] => { results := [.lit (.bool false)], args := [d1, d2] }
  | _ => none }
def FnSetPositionInvertsFileSetPosWrongFalsely : Prop := fnSetPositionInvertsFileSetPosRow.holds Edhg.pinned (OpenSpec.ofChange fnSetPositionInvertsFileSetPosWrong)

/-- 'zzlaws_parser_b48.FnFileFindsOwnerOrNil': WHATEVER THE INPUT: true; the input reads as it did. -/
def fnFileFindsOwnerOrNilSpec : ChangeSpec := { name := "fnFileFindsOwnerOrNil", fn := fun _ => fun
  | [d1, d2, d3] => { results := [.lit (.bool true)], args := [d1, d2, d3] }
  | _ => none }
def fnFileFindsOwnerOrNilRow : OpenClaim := { program := "yoedhw", sum := "02cc4940d6c35bd218b19db83f15ef116df7287fb72f22d320777c003c0f05cf", func := "github.com/d5/tengo/v2/zzlaws_parser_b48.FnFileFindsOwnerOrNil", spec := "fnFileFindsOwnerOrNil", unfollowed := true, recurses := true, apart := false }
def FnFileFindsOwnerOrNilSaid : Prop := fnFileFindsOwnerOrNilRow.holds Edhg.pinned (OpenSpec.ofChange fnFileFindsOwnerOrNilSpec)

/-- ITS FALSE NEIGHBOUR: 'it returns false'. Refute it at one input. -/
def fnFileFindsOwnerOrNilWrong : ChangeSpec := { name := "fnFileFindsOwnerOrNil", fn := fun _ => fun
  | [d1, d2, d3] => { results := [.lit (.bool false)], args := [d1, d2, d3] }
  | _ => none }
def FnFileFindsOwnerOrNilWrongFalsely : Prop := fnFileFindsOwnerOrNilRow.holds Edhg.pinned (OpenSpec.ofChange fnFileFindsOwnerOrNilWrong)

/-- 'zzlaws_parser_b48.FnFileContainsAndKeepsOrder': WHATEVER THE INPUT: true; the input reads as it did. -/
def fnFileContainsAndKeepsOrderSpec : ChangeSpec := { name := "fnFileContainsAndKeepsOrder", fn := fun _ => fun
  | [d1, d2, d3] => { results := [.lit (.bool true)], args := [d1, d2, d3] }
  | _ => none }
def fnFileContainsAndKeepsOrderRow : OpenClaim := { program := "yoedhw", sum := "02cc4940d6c35bd218b19db83f15ef116df7287fb72f22d320777c003c0f05cf", func := "github.com/d5/tengo/v2/zzlaws_parser_b48.FnFileContainsAndKeepsOrder", spec := "fnFileContainsAndKeepsOrder", unfollowed := true, recurses := true, apart := false }
def FnFileContainsAndKeepsOrderSaid : Prop := fnFileContainsAndKeepsOrderRow.holds Edhg.pinned (OpenSpec.ofChange fnFileContainsAndKeepsOrderSpec)

/-- ITS FALSE NEIGHBOUR: 'it returns false'. Refute it at one input. -/
def fnFileContainsAndKeepsOrderWrong : ChangeSpec := { name := "fnFileContainsAndKeepsOrder", fn := fun _ => fun
  | [d1, d2, d3] => { results := [.lit (.bool false)], args := [d1, d2, d3] }
  | _ => none }
def FnFileContainsAndKeepsOrderWrongFalsely : Prop := fnFileContainsAndKeepsOrderRow.holds Edhg.pinned (OpenSpec.ofChange fnFileContainsAndKeepsOrderWrong)

/-- 'zzlaws_parser_b48.FnSearchFilesCountsBasesAtMost': WHATEVER THE INPUT: true; the input reads as it did. -/
def fnSearchFilesCountsBasesAtMostSpec : ChangeSpec := { name := "fnSearchFilesCountsBasesAtMost", fn := fun _ => fun
  | [d1, d2, d3] => { results := [.lit (.bool true)], args := [d1, d2, d3] }
  | _ => none }
def fnSearchFilesCountsBasesAtMostRow : OpenClaim := { program := "yoedhw", sum := "02cc4940d6c35bd218b19db83f15ef116df7287fb72f22d320777c003c0f05cf", func := "github.com/d5/tengo/v2/zzlaws_parser_b48.FnSearchFilesCountsBasesAtMost", spec := "fnSearchFilesCountsBasesAtMost", unfollowed := true, recurses := true, apart := false }
def FnSearchFilesCountsBasesAtMostSaid : Prop := fnSearchFilesCountsBasesAtMostRow.holds Edhg.pinned (OpenSpec.ofChange fnSearchFilesCountsBasesAtMostSpec)

/-- ITS FALSE NEIGHBOUR: 'it returns false'. Refute it at one input. -/
def fnSearchFilesCountsBasesAtMostWrong : ChangeSpec := { name := "fnSearchFilesCountsBasesAtMost", fn := fun _ => fun
  | [d1, d2, d3] => { results := [.lit (.bool false)], args := [d1, d2, d3] }
  | _ => none }
def FnSearchFilesCountsBasesAtMostWrongFalsely : Prop := fnSearchFilesCountsBasesAtMostRow.holds Edhg.pinned (OpenSpec.ofChange fnSearchFilesCountsBasesAtMostWrong)

/-- 'zzlaws_parser_b48.FnSearchFilesMonotoneAndBounded': WHATEVER THE INPUT: true; the input reads as it did. -/
def fnSearchFilesMonotoneAndBoundedSpec : ChangeSpec := { name := "fnSearchFilesMonotoneAndBounded", fn := fun _ => fun
  | [d1, d2, d3, d4] => { results := [.lit (.bool true)], args := [d1, d2, d3, d4] }
  | _ => none }
def fnSearchFilesMonotoneAndBoundedRow : OpenClaim := { program := "yoedhw", sum := "02cc4940d6c35bd218b19db83f15ef116df7287fb72f22d320777c003c0f05cf", func := "github.com/d5/tengo/v2/zzlaws_parser_b48.FnSearchFilesMonotoneAndBounded", spec := "fnSearchFilesMonotoneAndBounded", unfollowed := true, recurses := true, apart := false }
def FnSearchFilesMonotoneAndBoundedSaid : Prop := fnSearchFilesMonotoneAndBoundedRow.holds Edhg.pinned (OpenSpec.ofChange fnSearchFilesMonotoneAndBoundedSpec)

/-- ITS FALSE NEIGHBOUR: 'it returns false'. Refute it at one input. -/
def fnSearchFilesMonotoneAndBoundedWrong : ChangeSpec := { name := "fnSearchFilesMonotoneAndBounded", fn := fun _ => fun
  | [d1, d2, d3, d4] => { results := [.lit (.bool false)], args := [d1, d2, d3, d4] }
  | _ => none }
def FnSearchFilesMonotoneAndBoundedWrongFalsely : Prop := fnSearchFilesMonotoneAndBoundedRow.holds Edhg.pinned (OpenSpec.ofChange fnSearchFilesMonotoneAndBoundedWrong)

/-- 'zzlaws_parser_b48.FnSetReturnsTheMakingSet': WHATEVER THE INPUT: true; the input reads as it did. -/
def fnSetReturnsTheMakingSetSpec : ChangeSpec := { name := "fnSetReturnsTheMakingSet", fn := fun _ => fun
  | [d1, d2] => { results := [.lit (.bool true)], args := [d1, d2] }
  | _ => none }
def fnSetReturnsTheMakingSetRow : OpenClaim := { program := "yoedhw", sum := "02cc4940d6c35bd218b19db83f15ef116df7287fb72f22d320777c003c0f05cf", func := "github.com/d5/tengo/v2/zzlaws_parser_b48.FnSetReturnsTheMakingSet", spec := "fnSetReturnsTheMakingSet", apart := false }
def FnSetReturnsTheMakingSetSaid : Prop := fnSetReturnsTheMakingSetRow.holds Edhg.pinned (OpenSpec.ofChange fnSetReturnsTheMakingSetSpec)

/-- ITS FALSE NEIGHBOUR: 'it returns false'. Refute it at one input. -/
def fnSetReturnsTheMakingSetWrong : ChangeSpec := { name := "fnSetReturnsTheMakingSet", fn := fun _ => fun
  | [d1, d2] => { results := [.lit (.bool false)], args := [d1, d2] }
  | _ => none }
def FnSetReturnsTheMakingSetWrongFalsely : Prop := fnSetReturnsTheMakingSetRow.holds Edhg.pinned (OpenSpec.ofChange fnSetReturnsTheMakingSetWrong)

/-- 'zzlaws_parser_b48.FnSetFindsFileAtItsEnds': WHATEVER THE INPUT: true; the input reads as it did. -/
def fnSetFindsFileAtItsEndsSpec : ChangeSpec := { name := "fnSetFindsFileAtItsEnds", fn := fun _ => fun
  | [d1, d2] => { results := [.lit (.bool true)], args := [d1, d2] }
  | _ => none }
def fnSetFindsFileAtItsEndsRow : OpenClaim := { program := "yoedhw", sum := "02cc4940d6c35bd218b19db83f15ef116df7287fb72f22d320777c003c0f05cf", func := "github.com/d5/tengo/v2/zzlaws_parser_b48.FnSetFindsFileAtItsEnds", spec := "fnSetFindsFileAtItsEnds", unfollowed := true, recurses := true, apart := false }
def FnSetFindsFileAtItsEndsSaid : Prop := fnSetFindsFileAtItsEndsRow.holds Edhg.pinned (OpenSpec.ofChange fnSetFindsFileAtItsEndsSpec)

/-- ITS FALSE NEIGHBOUR: 'it returns false'. Refute it at one input. -/
def fnSetFindsFileAtItsEndsWrong : ChangeSpec := { name := "fnSetFindsFileAtItsEnds", fn := fun _ => fun
  | [d1, d2] => { results := [.lit (.bool false)], args := [d1, d2] }
  | _ => none }
def FnSetFindsFileAtItsEndsWrongFalsely : Prop := fnSetFindsFileAtItsEndsRow.holds Edhg.pinned (OpenSpec.ofChange fnSetFindsFileAtItsEndsWrong)

end Rows
end Go.Proofs.Yoedhw
