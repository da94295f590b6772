/-
  No cell of these rows narrows 'for every input' (looked for: loops, veiled, ifaces, maps, wideKeys, modest, calm, conditions, laid).
  DERIVED. THE GIVEN ROWS OF THIS SEAT. 4 by the template 'for every input the law returns true; each argument reads behind the call as it read before'; 0 by the template 'total and deterministic' (their statements: Qxb6605371aTotals.lean).
  GIVEN WITH THE SEED: the statements are not yours to turn. If you find one false, say at which input.
  Laid BY PROGRAM, IN A SANDBOX (cutbox-rows.mjs): the forced cells as the released guide's own fill.sh prints them over the translation 43708ecf09f804ed… (all of the seat's roots in one cut). By AI agents, Wed Nov 11 2026. No macro, syntax, notation, axiom, sorry.
-/
import Derived.Test.Qxb6605371aChecked
import GoSem.Claim
import GoSem.ClaimJoined
import GoSem.ClaimMapViews
import Derived.JoinedTies
import Derived.KernelRfl
namespace Go.Proofs.Qxb6605371a
/- THE CELL 'sum', in the pinned program and in every row, IS THE sha256 OF THE DUMP (.gsa) THAT Qxb6605371aProg.lean LOADS. Nothing in Lean hashes anything: it is a label: what it is worth is what the hold of that sum in a sandbox is worth. -/
noncomputable def Try.pinned : Pinned := { name := "qxb6605371a", sum := "43708ecf09f804ed9fe626d08dd51cbebfa59dce3305c53bcfa8eeee2357739b", checked := Try.checked }
namespace Rows
def none {H : Type} : Left H := { results := [], args := [] }

/-- 'zzlaws_pkg_yaml_b1.FnBlockTextMatchesLineBreakModel': WHATEVER THE INPUT: true; the input reads as it did. -/
def fnBlockTextMatchesLineBreakModelSpec : ChangeSpec := { name := "fnBlockTextMatchesLineBreakModel", fn := fun _ => fun
  | [d1, d2, d3, d4] => { results := [.lit (.bool true)], args := [d1, d2, d3, d4] }
  | _ => none }
def fnBlockTextMatchesLineBreakModelRow : OpenClaim := { program := "qxb6605371a", sum := "43708ecf09f804ed9fe626d08dd51cbebfa59dce3305c53bcfa8eeee2357739b", func := "example.com/vestledger/vestledger/zzlaws_pkg_yaml_b1.FnBlockTextMatchesLineBreakModel", spec := "fnBlockTextMatchesLineBreakModel", inPlace := ["internal/abi.NoEscape", "internal/bytealg.MakeNoZero"], apart := false }
def FnBlockTextMatchesLineBreakModelSaid : Prop := fnBlockTextMatchesLineBreakModelRow.holds Try.pinned (OpenSpec.ofChange fnBlockTextMatchesLineBreakModelSpec)

/-- ITS FALSE NEIGHBOUR: 'it returns false'. Refute it at one input. -/
def fnBlockTextMatchesLineBreakModelWrong : ChangeSpec := { name := "fnBlockTextMatchesLineBreakModel", fn := fun _ => fun
  | [d1, d2, d3, d4] => { results := [.lit (.bool false)], args := [d1, d2, d3, d4] }
  | _ => none }
def FnBlockTextMatchesLineBreakModelWrongFalsely : Prop := fnBlockTextMatchesLineBreakModelRow.holds Try.pinned (OpenSpec.ofChange fnBlockTextMatchesLineBreakModelWrong)

/-- 'zzlaws_pkg_yaml_b1.FnBlockTextChompOnlyDecidesTheTrailingBreaks': WHATEVER THE INPUT: true; the input reads as it did. -/
def fnBlockTextChompOnlyDecidesTheTrailingBreaksSpec : ChangeSpec := { name := "fnBlockTextChompOnlyDecidesTheTrailingBreaks", fn := fun _ => fun
  | [d1, d2, d3] => { results := [.lit (.bool true)], args := [d1, d2, d3] }
  | _ => none }
def fnBlockTextChompOnlyDecidesTheTrailingBreaksRow : OpenClaim := { program := "qxb6605371a", sum := "43708ecf09f804ed9fe626d08dd51cbebfa59dce3305c53bcfa8eeee2357739b", func := "example.com/vestledger/vestledger/zzlaws_pkg_yaml_b1.FnBlockTextChompOnlyDecidesTheTrailingBreaks", spec := "fnBlockTextChompOnlyDecidesTheTrailingBreaks", inPlace := ["internal/abi.NoEscape", "internal/bytealg.MakeNoZero"], apart := false }
def FnBlockTextChompOnlyDecidesTheTrailingBreaksSaid : Prop := fnBlockTextChompOnlyDecidesTheTrailingBreaksRow.holds Try.pinned (OpenSpec.ofChange fnBlockTextChompOnlyDecidesTheTrailingBreaksSpec)

/-- ITS FALSE NEIGHBOUR: 'it returns false'. Refute it at one input. -/
def fnBlockTextChompOnlyDecidesTheTrailingBreaksWrong : ChangeSpec := { name := "fnBlockTextChompOnlyDecidesTheTrailingBreaks", fn := fun _ => fun
  | [d1, d2, d3] => { results := [.lit (.bool false)], args := [d1, d2, d3] }
  | _ => none }
def FnBlockTextChompOnlyDecidesTheTrailingBreaksWrongFalsely : Prop := fnBlockTextChompOnlyDecidesTheTrailingBreaksRow.holds Try.pinned (OpenSpec.ofChange fnBlockTextChompOnlyDecidesTheTrailingBreaksWrong)

/-- 'zzlaws_pkg_yaml_b1.FnIndexCommentIsFirstHashField': WHATEVER THE INPUT: true; the input reads as it did. -/
def fnIndexCommentIsFirstHashFieldSpec : ChangeSpec := { name := "fnIndexCommentIsFirstHashField", fn := fun _ => fun
  | [d] => { results := [.lit (.bool true)], args := [d] }
  | _ => none }
def fnIndexCommentIsFirstHashFieldRow : OpenClaim := { program := "qxb6605371a", sum := "43708ecf09f804ed9fe626d08dd51cbebfa59dce3305c53bcfa8eeee2357739b", func := "example.com/vestledger/vestledger/zzlaws_pkg_yaml_b1.FnIndexCommentIsFirstHashField", spec := "fnIndexCommentIsFirstHashField", apart := false }
def FnIndexCommentIsFirstHashFieldSaid : Prop := fnIndexCommentIsFirstHashFieldRow.holds Try.pinned (OpenSpec.ofChange fnIndexCommentIsFirstHashFieldSpec)

/-- ITS FALSE NEIGHBOUR: 'it returns false'. Refute it at one input. -/
def fnIndexCommentIsFirstHashFieldWrong : ChangeSpec := { name := "fnIndexCommentIsFirstHashField", fn := fun _ => fun
  | [d] => { results := [.lit (.bool false)], args := [d] }
  | _ => none }
def FnIndexCommentIsFirstHashFieldWrongFalsely : Prop := fnIndexCommentIsFirstHashFieldRow.holds Try.pinned (OpenSpec.ofChange fnIndexCommentIsFirstHashFieldWrong)

/-- 'zzlaws_pkg_yaml_b1.FnIndexCommentShiftsWithPrefixAndSeesAppendedComment': WHATEVER THE INPUT: true; the input reads as it did. -/
def fnIndexCommentShiftsWithPrefixAndSeesAppendedCommentSpec : ChangeSpec := { name := "fnIndexCommentShiftsWithPrefixAndSeesAppendedComment", fn := fun _ => fun
  | [d] => { results := [.lit (.bool true)], args := [d] }
  | _ => none }
def fnIndexCommentShiftsWithPrefixAndSeesAppendedCommentRow : OpenClaim := { program := "qxb6605371a", sum := "43708ecf09f804ed9fe626d08dd51cbebfa59dce3305c53bcfa8eeee2357739b", func := "example.com/vestledger/vestledger/zzlaws_pkg_yaml_b1.FnIndexCommentShiftsWithPrefixAndSeesAppendedComment", spec := "fnIndexCommentShiftsWithPrefixAndSeesAppendedComment", apart := false }
def FnIndexCommentShiftsWithPrefixAndSeesAppendedCommentSaid : Prop := fnIndexCommentShiftsWithPrefixAndSeesAppendedCommentRow.holds Try.pinned (OpenSpec.ofChange fnIndexCommentShiftsWithPrefixAndSeesAppendedCommentSpec)

/-- ITS FALSE NEIGHBOUR: 'it returns false'. Refute it at one input. -/
def fnIndexCommentShiftsWithPrefixAndSeesAppendedCommentWrong : ChangeSpec := { name := "fnIndexCommentShiftsWithPrefixAndSeesAppendedComment", fn := fun _ => fun
  | [d] => { results := [.lit (.bool false)], args := [d] }
  | _ => none }
def FnIndexCommentShiftsWithPrefixAndSeesAppendedCommentWrongFalsely : Prop := fnIndexCommentShiftsWithPrefixAndSeesAppendedCommentRow.holds Try.pinned (OpenSpec.ofChange fnIndexCommentShiftsWithPrefixAndSeesAppendedCommentWrong)

end Rows
end Go.Proofs.Qxb6605371a
