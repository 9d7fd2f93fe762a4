/-
  No cell of these rows narrows 'for every input' (looked for: loops, veiled, ifaces, maps, wideKeys, modest, calm, conditions, laid).
  DERIVED. THE GIVEN ROWS OF THIS SEAT. 3 by the template 'for every input the law returns true; each argument reads behind the call as it read before'; 0 by the template 'total and deterministic' (their statements: Qxb6619598aTotals.lean).
  GIVEN WITH THE SEED: the statements are not yours to turn. If you find one false, say at which input.
  Laid BY PROGRAM, IN A SANDBOX (cutbox-rows.mjs): the forced cells as the released guide's own fill.sh prints them over the translation e7218b6a605b56d7… (all of the seat's roots in one cut). By AI agents, Wed Nov 11 2026. No macro, syntax, notation, axiom, sorry.
-/
import Derived.Test.Qxb6619598aChecked
import GoSem.Claim
import GoSem.ClaimJoined
import GoSem.ClaimMapViews
import Derived.JoinedTies
import Derived.KernelRfl
namespace Go.Proofs.Qxb6619598a
/- THE CELL 'sum', in the pinned program and in every row, IS THE sha256 OF THE DUMP (.gsa) THAT Qxb6619598aProg.lean LOADS. Nothing in Lean hashes anything: it is a label: what it is worth is what the hold of that sum in a sandbox is worth. -/
noncomputable def Try.pinned : Pinned := { name := "qxb6619598a", sum := "e7218b6a605b56d7711e789c000acaaaf10ad1a0242c53c32fe4b49269eef66c", checked := Try.checked }
namespace Rows
def none {H : Type} : Left H := { results := [], args := [] }

/-- 'zzlaws_pkg_arrange_b1.FnNewLiveNodesIndexInvertsRing': WHATEVER THE INPUT: true; the input reads as it did. -/
def fnNewLiveNodesIndexInvertsRingSpec : ChangeSpec := { name := "fnNewLiveNodesIndexInvertsRing", fn := fun _ => fun
  | [d] => { results := [.lit (.bool true)], args := [d] }
  | _ => none }
def fnNewLiveNodesIndexInvertsRingRow : OpenClaim := { program := "qxb6619598a", sum := "e7218b6a605b56d7711e789c000acaaaf10ad1a0242c53c32fe4b49269eef66c", func := "example.com/slotwise/slotwise/zzlaws_pkg_arrange_b1.FnNewLiveNodesIndexInvertsRing", spec := "fnNewLiveNodesIndexInvertsRing", apart := false }
def FnNewLiveNodesIndexInvertsRingSaid : Prop := fnNewLiveNodesIndexInvertsRingRow.holds Try.pinned (OpenSpec.ofChange fnNewLiveNodesIndexInvertsRingSpec)

/-- ITS FALSE NEIGHBOUR: 'it returns false'. Refute it at one input. -/
def fnNewLiveNodesIndexInvertsRingWrong : ChangeSpec := { name := "fnNewLiveNodesIndexInvertsRing", fn := fun _ => fun
  | [d] => { results := [.lit (.bool false)], args := [d] }
  | _ => none }
def FnNewLiveNodesIndexInvertsRingWrongFalsely : Prop := fnNewLiveNodesIndexInvertsRingRow.holds Try.pinned (OpenSpec.ofChange fnNewLiveNodesIndexInvertsRingWrong)

/-- 'zzlaws_pkg_arrange_b1.FnLiveOnlyKeepsExactlyLiveEntries': WHATEVER THE INPUT: true; the input reads as it did. -/
def fnLiveOnlyKeepsExactlyLiveEntriesSpec : ChangeSpec := { name := "fnLiveOnlyKeepsExactlyLiveEntries", fn := fun _ => fun
  | [d1, d2, d3] => { results := [.lit (.bool true)], args := [d1, d2, d3] }
  | _ => none }
def fnLiveOnlyKeepsExactlyLiveEntriesRow : OpenClaim := { program := "qxb6619598a", sum := "e7218b6a605b56d7711e789c000acaaaf10ad1a0242c53c32fe4b49269eef66c", func := "example.com/slotwise/slotwise/zzlaws_pkg_arrange_b1.FnLiveOnlyKeepsExactlyLiveEntries", spec := "fnLiveOnlyKeepsExactlyLiveEntries", unfollowed := true, recurses := true, apart := false }
def FnLiveOnlyKeepsExactlyLiveEntriesSaid : Prop := fnLiveOnlyKeepsExactlyLiveEntriesRow.holds Try.pinned (OpenSpec.ofChange fnLiveOnlyKeepsExactlyLiveEntriesSpec)

/-- ITS FALSE NEIGHBOUR: 'it returns false'. Refute it at one input. -/
def fnLiveOnlyKeepsExactlyLiveEntriesWrong : ChangeSpec := { name := "fnLiveOnlyKeepsExactlyLiveEntries", fn := fun _ => fun
  | [d1, d2, d3] => { results := [.lit (.bool false)], args := [d1, d2, d3] }
  | _ => none }
def FnLiveOnlyKeepsExactlyLiveEntriesWrongFalsely : Prop := fnLiveOnlyKeepsExactlyLiveEntriesRow.holds Try.pinned (OpenSpec.ofChange fnLiveOnlyKeepsExactlyLiveEntriesWrong)

/-- 'zzlaws_pkg_arrange_b1.FnSwapThenSwapBackRestoresRound': WHATEVER THE INPUT: true; the input reads as it did. -/
def fnSwapThenSwapBackRestoresRoundSpec : ChangeSpec := { name := "fnSwapThenSwapBackRestoresRound", fn := fun _ => fun
  | [d1, d2, d3, d4, d5, d6, d7, d8, d9, d10, d11] => { results := [.lit (.bool true)], args := [d1, d2, d3, d4, d5, d6, d7, d8, d9, d10, d11] }
  | _ => none }
def fnSwapThenSwapBackRestoresRoundRow : OpenClaim := { program := "qxb6619598a", sum := "e7218b6a605b56d7711e789c000acaaaf10ad1a0242c53c32fe4b49269eef66c", func := "example.com/slotwise/slotwise/zzlaws_pkg_arrange_b1.FnSwapThenSwapBackRestoresRound", spec := "fnSwapThenSwapBackRestoresRound", recurses := true, apart := false }
def FnSwapThenSwapBackRestoresRoundSaid : Prop := fnSwapThenSwapBackRestoresRoundRow.holds Try.pinned (OpenSpec.ofChange fnSwapThenSwapBackRestoresRoundSpec)

/-- ITS FALSE NEIGHBOUR: 'it returns false'. Refute it at one input. -/
def fnSwapThenSwapBackRestoresRoundWrong : ChangeSpec := { name := "fnSwapThenSwapBackRestoresRound", fn := fun _ => fun
  | [d1, d2, d3, d4, d5, d6, d7, d8, d9, d10, d11] => { results := [.lit (.bool false)], args := [d1, d2, d3, d4, d5, d6, d7, d8, d9, d10, d11] }
  | _ => none }
def FnSwapThenSwapBackRestoresRoundWrongFalsely : Prop := fnSwapThenSwapBackRestoresRoundRow.holds Try.pinned (OpenSpec.ofChange fnSwapThenSwapBackRestoresRoundWrong)

end Rows
end Go.Proofs.Qxb6619598a
