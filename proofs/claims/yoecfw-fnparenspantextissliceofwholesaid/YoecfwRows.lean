/-
  No cell of these rows narrows 'for every input' (looked for: loops, veiled, ifaces, maps, wideKeys, modest, calm, conditions, laid).
  DERIVED. THE GIVEN ROWS OF THIS SEAT. 2 by the template 'for every input the law returns true; each argument reads behind the call as it read before'; 0 by the template 'total and deterministic' (their statements: YoecfwTotals.lean).
  GIVEN WITH THE SEED: the statements are not yours to turn. If you find one false, say at which input.
  Laid BY PROGRAM, IN A SANDBOX (cutbox-rows.mjs): the forced cells as the released guide's own fill.sh prints them over the translation 2edcf2a8ea463170… (all of the seat's roots in one cut). By AI agents, Wed Nov 11 2026. No macro, syntax, notation, axiom, sorry.
-/
import Derived.Test.YoecfwChecked
import GoSem.Claim
import GoSem.ClaimJoined
import GoSem.ClaimMapViews
import Derived.JoinedTies
import Derived.KernelRfl
namespace Go.Proofs.Yoecfw
/- THE CELL 'sum', in the pinned program and in every row, IS THE sha256 OF THE DUMP (.gsa) THAT YoecfwProg.lean LOADS. Nothing in Lean hashes anything: it is a label: what it is worth is what the hold of that sum in a sandbox is worth. -/
noncomputable def Ecfg.pinned : Pinned := { name := "yoecfw", sum := "2edcf2a8ea46317014774e6f6790a81f60cf44faeb0e2e6e27099baf5c7e8802", checked := Ecfg.checked }
namespace Rows
def none {H : Type} : Left H := { results := [], args := [] }

/-- 'zzlaws_parser_b20.FnParenStringIsNameInDepthParens': WHATEVER THE INPUT: true; the input reads as it did. -/
def fnParenStringIsNameInDepthParensSpec : ChangeSpec := { name := "fnParenStringIsNameInDepthParens", fn := fun _ => fun
  | [d1, d2] => { results := [.lit (.bool true)], args := [d1, d2] }
  | _ => none }
def fnParenStringIsNameInDepthParensRow : OpenClaim := { program := "yoecfw", sum := "2edcf2a8ea46317014774e6f6790a81f60cf44faeb0e2e6e27099baf5c7e8802", func := "github.com/d5/tengo/v2/zzlaws_parser_b20.FnParenStringIsNameInDepthParens", spec := "fnParenStringIsNameInDepthParens", unfollowed := true, recurses := true, apart := false }
def FnParenStringIsNameInDepthParensSaid : Prop := fnParenStringIsNameInDepthParensRow.holds Ecfg.pinned (OpenSpec.ofChange fnParenStringIsNameInDepthParensSpec)

/-- ITS FALSE NEIGHBOUR: 'it returns false'. Refute it at one input. -/
def fnParenStringIsNameInDepthParensWrong : ChangeSpec := { name := "fnParenStringIsNameInDepthParens", fn := fun _ => fun
  | [d1, d2] => { results := [.lit (.bool false)], args := [d1, d2] }
  | _ => none }
def FnParenStringIsNameInDepthParensWrongFalsely : Prop := fnParenStringIsNameInDepthParensRow.holds Ecfg.pinned (OpenSpec.ofChange fnParenStringIsNameInDepthParensWrong)

/-- 'zzlaws_parser_b20.FnParenSpanTextIsSliceOfWhole': WHATEVER THE INPUT: true; the input reads as it did. -/
def fnParenSpanTextIsSliceOfWholeSpec : ChangeSpec := { name := "fnParenSpanTextIsSliceOfWhole", fn := fun _ => fun
  | [d1, d2, d3] => { results := [.lit (.bool true)], args := [d1, d2, d3] }
  | _ => none }
def fnParenSpanTextIsSliceOfWholeRow : OpenClaim := { program := "yoecfw", sum := "2edcf2a8ea46317014774e6f6790a81f60cf44faeb0e2e6e27099baf5c7e8802", func := "github.com/d5/tengo/v2/zzlaws_parser_b20.FnParenSpanTextIsSliceOfWhole", spec := "fnParenSpanTextIsSliceOfWhole", unfollowed := true, recurses := true, apart := false }
def FnParenSpanTextIsSliceOfWholeSaid : Prop := fnParenSpanTextIsSliceOfWholeRow.holds Ecfg.pinned (OpenSpec.ofChange fnParenSpanTextIsSliceOfWholeSpec)

/-- ITS FALSE NEIGHBOUR: 'it returns false'. Refute it at one input. -/
def fnParenSpanTextIsSliceOfWholeWrong : ChangeSpec := { name := "fnParenSpanTextIsSliceOfWhole", fn := fun _ => fun
  | [d1, d2, d3] => { results := [.lit (.bool false)], args := [d1, d2, d3] }
  | _ => none }
def FnParenSpanTextIsSliceOfWholeWrongFalsely : Prop := fnParenSpanTextIsSliceOfWholeRow.holds Ecfg.pinned (OpenSpec.ofChange fnParenSpanTextIsSliceOfWholeWrong)

end Rows
end Go.Proofs.Yoecfw
