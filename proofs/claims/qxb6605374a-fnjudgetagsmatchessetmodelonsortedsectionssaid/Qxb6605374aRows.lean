/-
  No cell of these rows narrows 'for every input' (looked for: loops, veiled, ifaces, maps, wideKeys, modest, calm, conditions, laid).
  DERIVED. THE GIVEN ROWS OF THIS SEAT. 3 by the template 'for every input the law returns true; each argument reads behind the call as it read before'; 0 by the template 'total and deterministic' (their statements: Qxb6605374aTotals.lean).
  GIVEN WITH THE SEED: the statements are not yours to turn. If you find one false, say at which input.
  Laid BY PROGRAM, IN A SANDBOX (cutbox-rows.mjs): the forced cells as the released guide's own fill.sh prints them over the translation 172bab5648338f99… (all of the seat's roots in one cut). By AI agents, Wed Nov 11 2026. No macro, syntax, notation, axiom, sorry.
-/
import Derived.Test.Qxb6605374aChecked
import GoSem.Claim
import GoSem.ClaimJoined
import GoSem.ClaimMapViews
import Derived.JoinedTies
import Derived.KernelRfl
namespace Go.Proofs.Qxb6605374a
/- THE CELL 'sum', in the pinned program and in every row, IS THE sha256 OF THE DUMP (.gsa) THAT Qxb6605374aProg.lean LOADS. Nothing in Lean hashes anything: it is a label: what it is worth is what the hold of that sum in a sandbox is worth. -/
noncomputable def Try.pinned : Pinned := { name := "qxb6605374a", sum := "172bab5648338f99f0f6e5a06b24659ca2b475aad61c34e4c689cd58735705aa", checked := Try.checked }
namespace Rows
def none {H : Type} : Left H := { results := [], args := [] }

/-- 'zzlaws_root_b1.FnIsNamespaceByteIsTheAlphabet': WHATEVER THE INPUT: true; the input reads as it did. -/
def fnIsNamespaceByteIsTheAlphabetSpec : ChangeSpec := { name := "fnIsNamespaceByteIsTheAlphabet", fn := fun _ => fun
  | [d] => { results := [.lit (.bool true)], args := [d] }
  | _ => none }
def fnIsNamespaceByteIsTheAlphabetRow : OpenClaim := { program := "qxb6605374a", sum := "172bab5648338f99f0f6e5a06b24659ca2b475aad61c34e4c689cd58735705aa", func := "example.com/once-per-miss/once-per-miss/zzlaws_root_b1.FnIsNamespaceByteIsTheAlphabet", spec := "fnIsNamespaceByteIsTheAlphabet", apart := false }
def FnIsNamespaceByteIsTheAlphabetSaid : Prop := fnIsNamespaceByteIsTheAlphabetRow.holds Try.pinned (OpenSpec.ofChange fnIsNamespaceByteIsTheAlphabetSpec)

/-- ITS FALSE NEIGHBOUR: 'it returns false'. Refute it at one input. -/
def fnIsNamespaceByteIsTheAlphabetWrong : ChangeSpec := { name := "fnIsNamespaceByteIsTheAlphabet", fn := fun _ => fun
  | [d] => { results := [.lit (.bool false)], args := [d] }
  | _ => none }
def FnIsNamespaceByteIsTheAlphabetWrongFalsely : Prop := fnIsNamespaceByteIsTheAlphabetRow.holds Try.pinned (OpenSpec.ofChange fnIsNamespaceByteIsTheAlphabetWrong)

/-- 'zzlaws_root_b1.FnJudgeTagsMatchesSetModelOnSortedSections': WHATEVER THE INPUT: true; the input reads as it did. -/
def fnJudgeTagsMatchesSetModelOnSortedSectionsSpec : ChangeSpec := { name := "fnJudgeTagsMatchesSetModelOnSortedSections", fn := fun _ => fun
  | [d1, d2] => { results := [.lit (.bool true)], args := [d1, d2] }
  | _ => none }
def fnJudgeTagsMatchesSetModelOnSortedSectionsRow : OpenClaim := { program := "qxb6605374a", sum := "172bab5648338f99f0f6e5a06b24659ca2b475aad61c34e4c689cd58735705aa", func := "example.com/once-per-miss/once-per-miss/zzlaws_root_b1.FnJudgeTagsMatchesSetModelOnSortedSections", spec := "fnJudgeTagsMatchesSetModelOnSortedSections", apart := false }
def FnJudgeTagsMatchesSetModelOnSortedSectionsSaid : Prop := fnJudgeTagsMatchesSetModelOnSortedSectionsRow.holds Try.pinned (OpenSpec.ofChange fnJudgeTagsMatchesSetModelOnSortedSectionsSpec)

/-- ITS FALSE NEIGHBOUR: 'it returns false'. Refute it at one input. -/
def fnJudgeTagsMatchesSetModelOnSortedSectionsWrong : ChangeSpec := { name := "fnJudgeTagsMatchesSetModelOnSortedSections", fn := fun _ => fun
  | [d1, d2] => { results := [.lit (.bool false)], args := [d1, d2] }
  | _ => none }
def FnJudgeTagsMatchesSetModelOnSortedSectionsWrongFalsely : Prop := fnJudgeTagsMatchesSetModelOnSortedSectionsRow.holds Try.pinned (OpenSpec.ofChange fnJudgeTagsMatchesSetModelOnSortedSectionsWrong)

/-- 'zzlaws_root_b1.FnJudgeTagsSoundInAnyOrder': WHATEVER THE INPUT: true; the input reads as it did. -/
def fnJudgeTagsSoundInAnyOrderSpec : ChangeSpec := { name := "fnJudgeTagsSoundInAnyOrder", fn := fun _ => fun
  | [d1, d2] => { results := [.lit (.bool true)], args := [d1, d2] }
  | _ => none }
def fnJudgeTagsSoundInAnyOrderRow : OpenClaim := { program := "qxb6605374a", sum := "172bab5648338f99f0f6e5a06b24659ca2b475aad61c34e4c689cd58735705aa", func := "example.com/once-per-miss/once-per-miss/zzlaws_root_b1.FnJudgeTagsSoundInAnyOrder", spec := "fnJudgeTagsSoundInAnyOrder", apart := false }
def FnJudgeTagsSoundInAnyOrderSaid : Prop := fnJudgeTagsSoundInAnyOrderRow.holds Try.pinned (OpenSpec.ofChange fnJudgeTagsSoundInAnyOrderSpec)

/-- ITS FALSE NEIGHBOUR: 'it returns false'. Refute it at one input. -/
def fnJudgeTagsSoundInAnyOrderWrong : ChangeSpec := { name := "fnJudgeTagsSoundInAnyOrder", fn := fun _ => fun
  | [d1, d2] => { results := [.lit (.bool false)], args := [d1, d2] }
  | _ => none }
def FnJudgeTagsSoundInAnyOrderWrongFalsely : Prop := fnJudgeTagsSoundInAnyOrderRow.holds Try.pinned (OpenSpec.ofChange fnJudgeTagsSoundInAnyOrderWrong)

end Rows
end Go.Proofs.Qxb6605374a
