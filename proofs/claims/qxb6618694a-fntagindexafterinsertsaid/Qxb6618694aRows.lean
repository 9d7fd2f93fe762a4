/-
  No cell of these rows narrows 'for every input' (looked for: loops, veiled, ifaces, maps, wideKeys, modest, calm, conditions, laid).
  DERIVED. THE GIVEN ROWS OF THIS SEAT. 2 by the template 'for every input the law returns true; each argument reads behind the call as it read before'; 0 by the template 'total and deterministic' (their statements: Qxb6618694aTotals.lean).
  GIVEN WITH THE SEED: the statements are not yours to turn. If you find one false, say at which input.
  Laid BY PROGRAM, IN A SANDBOX (cutbox-rows.mjs): the forced cells as the released guide's own fill.sh prints them over the translation 2d1c42d3fcac56ae… (all of the seat's roots in one cut). By AI agents, Wed Nov 11 2026. No macro, syntax, notation, axiom, sorry.
-/
import Derived.Test.Qxb6618694aChecked
import GoSem.Claim
import GoSem.ClaimJoined
import GoSem.ClaimMapViews
import Derived.JoinedTies
import Derived.KernelRfl
namespace Go.Proofs.Qxb6618694a
/- THE CELL 'sum', in the pinned program and in every row, IS THE sha256 OF THE DUMP (.gsa) THAT Qxb6618694aProg.lean LOADS. Nothing in Lean hashes anything: it is a label: what it is worth is what the hold of that sum in a sandbox is worth. -/
noncomputable def Try.pinned : Pinned := { name := "qxb6618694a", sum := "2d1c42d3fcac56ae9a5db4a261e20184c682ae2822d917e7981a397088d83421", checked := Try.checked }
namespace Rows
def none {H : Type} : Left H := { results := [], args := [] }

/-- 'zzlaws_root_b1.FnTagIndexAtAnyCut': WHATEVER THE INPUT: true; the input reads as it did. -/
def fnTagIndexAtAnyCutSpec : ChangeSpec := { name := "fnTagIndexAtAnyCut", fn := fun _ => fun
  | [d1, d2, d3] => { results := [.lit (.bool true)], args := [d1, d2, d3] }
  | _ => none }
def fnTagIndexAtAnyCutRow : OpenClaim := { program := "qxb6618694a", sum := "2d1c42d3fcac56ae9a5db4a261e20184c682ae2822d917e7981a397088d83421", func := "example.com/spanweave/spanweave/zzlaws_root_b1.FnTagIndexAtAnyCut", spec := "fnTagIndexAtAnyCut", unfollowed := true, recurses := true, apart := false }
def FnTagIndexAtAnyCutSaid : Prop := fnTagIndexAtAnyCutRow.holds Try.pinned (OpenSpec.ofChange fnTagIndexAtAnyCutSpec)

/-- ITS FALSE NEIGHBOUR: 'it returns false'. Refute it at one input. -/
def fnTagIndexAtAnyCutWrong : ChangeSpec := { name := "fnTagIndexAtAnyCut", fn := fun _ => fun
  | [d1, d2, d3] => { results := [.lit (.bool false)], args := [d1, d2, d3] }
  | _ => none }
def FnTagIndexAtAnyCutWrongFalsely : Prop := fnTagIndexAtAnyCutRow.holds Try.pinned (OpenSpec.ofChange fnTagIndexAtAnyCutWrong)

/-- 'zzlaws_root_b1.FnTagIndexAfterInsert': WHATEVER THE INPUT: true; the input reads as it did. -/
def fnTagIndexAfterInsertSpec : ChangeSpec := { name := "fnTagIndexAfterInsert", fn := fun _ => fun
  | [d1, d2, d3, d4] => { results := [.lit (.bool true)], args := [d1, d2, d3, d4] }
  | _ => none }
def fnTagIndexAfterInsertRow : OpenClaim := { program := "qxb6618694a", sum := "2d1c42d3fcac56ae9a5db4a261e20184c682ae2822d917e7981a397088d83421", func := "example.com/spanweave/spanweave/zzlaws_root_b1.FnTagIndexAfterInsert", spec := "fnTagIndexAfterInsert", unfollowed := true, recurses := true, apart := false }
def FnTagIndexAfterInsertSaid : Prop := fnTagIndexAfterInsertRow.holds Try.pinned (OpenSpec.ofChange fnTagIndexAfterInsertSpec)

/-- ITS FALSE NEIGHBOUR: 'it returns false'. Refute it at one input. -/
def fnTagIndexAfterInsertWrong : ChangeSpec := { name := "fnTagIndexAfterInsert", fn := fun _ => fun
  | [d1, d2, d3, d4] => { results := [.lit (.bool false)], args := [d1, d2, d3, d4] }
  | _ => none }
def FnTagIndexAfterInsertWrongFalsely : Prop := fnTagIndexAfterInsertRow.holds Try.pinned (OpenSpec.ofChange fnTagIndexAfterInsertWrong)

end Rows
end Go.Proofs.Qxb6618694a
