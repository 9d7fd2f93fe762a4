/-
  No cell of these rows narrows 'for every input' (looked for: loops, veiled, ifaces, maps, wideKeys, modest, calm, conditions, laid).
  DERIVED. THE GIVEN ROWS OF THIS SEAT. 3 by the template 'for every input the law returns true; each argument reads behind the call as it read before'; 0 by the template 'total and deterministic' (their statements: Qxb6617447aTotals.lean).
  GIVEN WITH THE SEED: the statements are not yours to turn. If you find one false, say at which input.
  Laid BY PROGRAM, IN A SANDBOX (cutbox-rows.mjs): the forced cells as the released guide's own fill.sh prints them over the translation 9ab0700382769232… (all of the seat's roots in one cut). By AI agents, Wed Nov 11 2026. No macro, syntax, notation, axiom, sorry.
-/
import Derived.Test.Qxb6617447aChecked
import GoSem.Claim
import GoSem.ClaimJoined
import GoSem.ClaimMapViews
import Derived.JoinedTies
import Derived.KernelRfl
namespace Go.Proofs.Qxb6617447a
/- THE CELL 'sum', in the pinned program and in every row, IS THE sha256 OF THE DUMP (.gsa) THAT Qxb6617447aProg.lean LOADS. Nothing in Lean hashes anything: it is a label: what it is worth is what the hold of that sum in a sandbox is worth. -/
noncomputable def Try.pinned : Pinned := { name := "qxb6617447a", sum := "9ab07003827692323e07ff26878bc38210df10c27ebd232ba420ca780d5f5f7b", checked := Try.checked }
namespace Rows
def none {H : Type} : Left H := { results := [], args := [] }

/-- 'zzlaws_internal_atomicfile_b1.FnTemporaryKeepsLongestRuneCutThatFits': WHATEVER THE INPUT: true; the input reads as it did. -/
def fnTemporaryKeepsLongestRuneCutThatFitsSpec : ChangeSpec := { name := "fnTemporaryKeepsLongestRuneCutThatFits", fn := fun _ => fun
  | [d1, d2, d3] => { results := [.lit (.bool true)], args := [d1, d2, d3] }
  | _ => none }
def fnTemporaryKeepsLongestRuneCutThatFitsRow : OpenClaim := { program := "qxb6617447a", sum := "9ab07003827692323e07ff26878bc38210df10c27ebd232ba420ca780d5f5f7b", func := "example.com/outrank/outrank/zzlaws_internal_atomicfile_b1.FnTemporaryKeepsLongestRuneCutThatFits", spec := "fnTemporaryKeepsLongestRuneCutThatFits", apart := false }
def FnTemporaryKeepsLongestRuneCutThatFitsSaid : Prop := fnTemporaryKeepsLongestRuneCutThatFitsRow.holds Try.pinned (OpenSpec.ofChange fnTemporaryKeepsLongestRuneCutThatFitsSpec)

/-- ITS FALSE NEIGHBOUR: 'it returns false'. Refute it at one input. -/
def fnTemporaryKeepsLongestRuneCutThatFitsWrong : ChangeSpec := { name := "fnTemporaryKeepsLongestRuneCutThatFits", fn := fun _ => fun
  | [d1, d2, d3] => { results := [.lit (.bool false)], args := [d1, d2, d3] }
  | _ => none }
def FnTemporaryKeepsLongestRuneCutThatFitsWrongFalsely : Prop := fnTemporaryKeepsLongestRuneCutThatFitsRow.holds Try.pinned (OpenSpec.ofChange fnTemporaryKeepsLongestRuneCutThatFitsWrong)

/-- 'zzlaws_internal_atomicfile_b1.FnTemporaryIgnoresBytesBeyondTheCut': WHATEVER THE INPUT: true; the input reads as it did. -/
def fnTemporaryIgnoresBytesBeyondTheCutSpec : ChangeSpec := { name := "fnTemporaryIgnoresBytesBeyondTheCut", fn := fun _ => fun
  | [d1, d2, d3, d4] => { results := [.lit (.bool true)], args := [d1, d2, d3, d4] }
  | _ => none }
def fnTemporaryIgnoresBytesBeyondTheCutRow : OpenClaim := { program := "qxb6617447a", sum := "9ab07003827692323e07ff26878bc38210df10c27ebd232ba420ca780d5f5f7b", func := "example.com/outrank/outrank/zzlaws_internal_atomicfile_b1.FnTemporaryIgnoresBytesBeyondTheCut", spec := "fnTemporaryIgnoresBytesBeyondTheCut", apart := false }
def FnTemporaryIgnoresBytesBeyondTheCutSaid : Prop := fnTemporaryIgnoresBytesBeyondTheCutRow.holds Try.pinned (OpenSpec.ofChange fnTemporaryIgnoresBytesBeyondTheCutSpec)

/-- ITS FALSE NEIGHBOUR: 'it returns false'. Refute it at one input. -/
def fnTemporaryIgnoresBytesBeyondTheCutWrong : ChangeSpec := { name := "fnTemporaryIgnoresBytesBeyondTheCut", fn := fun _ => fun
  | [d1, d2, d3, d4] => { results := [.lit (.bool false)], args := [d1, d2, d3, d4] }
  | _ => none }
def FnTemporaryIgnoresBytesBeyondTheCutWrongFalsely : Prop := fnTemporaryIgnoresBytesBeyondTheCutRow.holds Try.pinned (OpenSpec.ofChange fnTemporaryIgnoresBytesBeyondTheCutWrong)

/-- 'zzlaws_internal_atomicfile_b1.FnTemporaryGrowsWithLimit': WHATEVER THE INPUT: true; the input reads as it did. -/
def fnTemporaryGrowsWithLimitSpec : ChangeSpec := { name := "fnTemporaryGrowsWithLimit", fn := fun _ => fun
  | [d1, d2, d3, d4] => { results := [.lit (.bool true)], args := [d1, d2, d3, d4] }
  | _ => none }
def fnTemporaryGrowsWithLimitRow : OpenClaim := { program := "qxb6617447a", sum := "9ab07003827692323e07ff26878bc38210df10c27ebd232ba420ca780d5f5f7b", func := "example.com/outrank/outrank/zzlaws_internal_atomicfile_b1.FnTemporaryGrowsWithLimit", spec := "fnTemporaryGrowsWithLimit", apart := false }
def FnTemporaryGrowsWithLimitSaid : Prop := fnTemporaryGrowsWithLimitRow.holds Try.pinned (OpenSpec.ofChange fnTemporaryGrowsWithLimitSpec)

/-- ITS FALSE NEIGHBOUR: 'it returns false'. Refute it at one input. -/
def fnTemporaryGrowsWithLimitWrong : ChangeSpec := { name := "fnTemporaryGrowsWithLimit", fn := fun _ => fun
  | [d1, d2, d3, d4] => { results := [.lit (.bool false)], args := [d1, d2, d3, d4] }
  | _ => none }
def FnTemporaryGrowsWithLimitWrongFalsely : Prop := fnTemporaryGrowsWithLimitRow.holds Try.pinned (OpenSpec.ofChange fnTemporaryGrowsWithLimitWrong)

end Rows
end Go.Proofs.Qxb6617447a
