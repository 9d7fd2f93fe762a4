import Derived.Test.Qxb6618694aBytes
import Derived.ProofKit
import Derived.OpenShut
import Derived.ShutString
import Derived.ChangeOld
import Derived.Below
import Derived.SliceStrings
namespace Go.Proofs.Qxb6618694a
open Go.ChangeShapes Go.WideShapes Go.ChangeAt Go.RowKit

theorem lt_of_cell {w : World} {a : Addr} {v : Value} (h : w.cell? a = some v) : a.block < w.heap.size := by
  refine Classical.byContradiction fun hn => ?_
  have : w.heap[a.block]? = none := Array.getElem?_eq_none (by omega)
  simp [World.cell?, this] at h

/-- What the walk is told of a slice of strings that came in: nil, or a row whose first 'len' strings are 'ks'. -/
def IsStrs (w : World) (a : Option Addr) (len cap : Nat) (ks : List ByteArray) : Prop :=
  len = ks.length ∧ StrRow w a ks ∧ (a = none → len = 0 ∧ cap = 0)

theorem isStrs_of {H : Type} {enc : TypeId × Value → H} {W : World} {a : Option Addr} {len cap : Nat} {x : DataW H × List MemPlace} {fuel : Nat}
    (hf : DataW.trod enc Try.prog W 0 (fun _ => true) true fuel 22 (Value.slice a len cap).cells.toList = some x) : ∃ ks, IsStrs W a len cap ks := by
  rcases open_strings Try.underlying22 Try.underlying9 (by kernel_rfl) hf with ⟨hcs, _⟩ | ⟨x, l, c, ss, hcs, _, hl, hm, hz, _, hcell, hwz⟩
  · simp [Value.cells] at hcs
    obtain ⟨rfl, rfl, rfl⟩ := hcs
    exact ⟨[], rfl, fun _ hj => absurd hj (Nat.not_lt_zero _), fun _ => ⟨rfl, rfl⟩⟩
  · simp [Value.cells] at hcs
    obtain ⟨rfl, rfl, rfl⟩ := hcs
    simp only [if_true] at hz
    refine ⟨ss.take len, by simp; omega, fun j hj => ?_, fun h => by simp at h⟩
    simp only [List.length_take] at hj
    have hc := hcell j (by omega)
    obtain ⟨b, off, spot⟩ := x
    have hspot : spot = none := by simpa [Addr.add] using World.cell?_spot (hcell 0 (by omega))
    subst hspot
    rw [add_plain] at hc
    refine ⟨b, off, rfl, lt_of_cell hc, ?_⟩
    rw [hc]
    have : j < len := by omega
    simp [this]

end Go.Proofs.Qxb6618694a
