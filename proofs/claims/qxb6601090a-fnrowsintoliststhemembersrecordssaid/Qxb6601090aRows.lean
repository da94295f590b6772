/-
  No cell of these rows narrows 'for every input' (looked for: loops, veiled, ifaces, maps, wideKeys, modest, calm, conditions, laid).
  DERIVED. THE GIVEN ROWS OF THIS SEAT. 3 by the template 'for every input the law returns true; each argument reads behind the call as it read before'; 0 by the template 'total and deterministic' (their statements: Qxb6601090aTotals.lean).
  GIVEN WITH THE SEED: the statements are not yours to turn. If you find one false, say at which input.
  Laid BY PROGRAM, IN A SANDBOX (cutbox-rows.mjs): the forced cells as the released guide's own fill.sh prints them over the translation 43486c2544488cb0… (all of the seat's roots in one cut). By AI agents, Wed Nov 11 2026. No macro, syntax, notation, axiom, sorry.
-/
import Derived.Test.Qxb6601090aChecked
import GoSem.Claim
import GoSem.ClaimJoined
import GoSem.ClaimMapViews
import Derived.JoinedTies
import Derived.KernelRfl
namespace Go.Proofs.Qxb6601090a
/- THE CELL 'sum', in the pinned program and in every row, IS THE sha256 OF THE DUMP (.gsa) THAT Qxb6601090aProg.lean LOADS. Nothing in Lean hashes anything: it is a label: what it is worth is what the hold of that sum in a sandbox is worth. -/
noncomputable def Try.pinned : Pinned := { name := "qxb6601090a", sum := "43486c2544488cb0ff97a6b4787f3665cf21ca82f7d4773fbe66feeeca91cd2e", checked := Try.checked }
namespace Rows
def none {H : Type} : Left H := { results := [], args := [] }

/-- 'zzlaws_root_b1.FnAgainOnWayGoesThroughAllThatOthersDo': WHATEVER THE INPUT: true; the input reads as it did. -/
def fnAgainOnWayGoesThroughAllThatOthersDoSpec : ChangeSpec := { name := "fnAgainOnWayGoesThroughAllThatOthersDo", fn := fun _ => fun
  | [d1, d2] => { results := [.lit (.bool true)], args := [d1, d2] }
  | _ => none }
def fnAgainOnWayGoesThroughAllThatOthersDoRow : OpenClaim := { program := "qxb6601090a", sum := "43486c2544488cb0ff97a6b4787f3665cf21ca82f7d4773fbe66feeeca91cd2e", func := "example.com/vestwright/vestwright/zzlaws_root_b1.FnAgainOnWayGoesThroughAllThatOthersDo", spec := "fnAgainOnWayGoesThroughAllThatOthersDo", apart := false }
def FnAgainOnWayGoesThroughAllThatOthersDoSaid : Prop := fnAgainOnWayGoesThroughAllThatOthersDoRow.holds Try.pinned (OpenSpec.ofChange fnAgainOnWayGoesThroughAllThatOthersDoSpec)

/-- ITS FALSE NEIGHBOUR: 'it returns false'. Refute it at one input. -/
def fnAgainOnWayGoesThroughAllThatOthersDoWrong : ChangeSpec := { name := "fnAgainOnWayGoesThroughAllThatOthersDo", fn := fun _ => fun
  | [d1, d2] => { results := [.lit (.bool false)], args := [d1, d2] }
  | _ => none }
def FnAgainOnWayGoesThroughAllThatOthersDoWrongFalsely : Prop := fnAgainOnWayGoesThroughAllThatOthersDoRow.holds Try.pinned (OpenSpec.ofChange fnAgainOnWayGoesThroughAllThatOthersDoWrong)

/-- 'zzlaws_root_b1.FnRowsIntoListsTheMembersRecords': WHATEVER THE INPUT: true; the input reads as it did. -/
def fnRowsIntoListsTheMembersRecordsSpec : ChangeSpec := { name := "fnRowsIntoListsTheMembersRecords", fn := fun _ => fun
  | [d1, d2, d3, d4] => { results := [.lit (.bool true)], args := [d1, d2, d3, d4] }
  | _ => none }
def fnRowsIntoListsTheMembersRecordsRow : OpenClaim := { program := "qxb6601090a", sum := "43486c2544488cb0ff97a6b4787f3665cf21ca82f7d4773fbe66feeeca91cd2e", func := "example.com/vestwright/vestwright/zzlaws_root_b1.FnRowsIntoListsTheMembersRecords", spec := "fnRowsIntoListsTheMembersRecords", apart := false }
def FnRowsIntoListsTheMembersRecordsSaid : Prop := fnRowsIntoListsTheMembersRecordsRow.holds Try.pinned (OpenSpec.ofChange fnRowsIntoListsTheMembersRecordsSpec)

/-- ITS FALSE NEIGHBOUR: 'it returns false'. Refute it at one input. -/
def fnRowsIntoListsTheMembersRecordsWrong : ChangeSpec := { name := "fnRowsIntoListsTheMembersRecords", fn := fun _ => fun
  | [d1, d2, d3, d4] => { results := [.lit (.bool false)], args := [d1, d2, d3, d4] }
  | _ => none }
def FnRowsIntoListsTheMembersRecordsWrongFalsely : Prop := fnRowsIntoListsTheMembersRecordsRow.holds Try.pinned (OpenSpec.ofChange fnRowsIntoListsTheMembersRecordsWrong)

/-- 'zzlaws_root_b1.FnRowsIntoReusesTheRoom': WHATEVER THE INPUT: true; the input reads as it did. -/
def fnRowsIntoReusesTheRoomSpec : ChangeSpec := { name := "fnRowsIntoReusesTheRoom", fn := fun _ => fun
  | [d1, d2, d3, d4, d5] => { results := [.lit (.bool true)], args := [d1, d2, d3, d4, d5] }
  | _ => none }
def fnRowsIntoReusesTheRoomRow : OpenClaim := { program := "qxb6601090a", sum := "43486c2544488cb0ff97a6b4787f3665cf21ca82f7d4773fbe66feeeca91cd2e", func := "example.com/vestwright/vestwright/zzlaws_root_b1.FnRowsIntoReusesTheRoom", spec := "fnRowsIntoReusesTheRoom", apart := false }
def FnRowsIntoReusesTheRoomSaid : Prop := fnRowsIntoReusesTheRoomRow.holds Try.pinned (OpenSpec.ofChange fnRowsIntoReusesTheRoomSpec)

/-- ITS FALSE NEIGHBOUR: 'it returns false'. Refute it at one input. -/
def fnRowsIntoReusesTheRoomWrong : ChangeSpec := { name := "fnRowsIntoReusesTheRoom", fn := fun _ => fun
  | [d1, d2, d3, d4, d5] => { results := [.lit (.bool false)], args := [d1, d2, d3, d4, d5] }
  | _ => none }
def FnRowsIntoReusesTheRoomWrongFalsely : Prop := fnRowsIntoReusesTheRoomRow.holds Try.pinned (OpenSpec.ofChange fnRowsIntoReusesTheRoomWrong)

end Rows
end Go.Proofs.Qxb6601090a
