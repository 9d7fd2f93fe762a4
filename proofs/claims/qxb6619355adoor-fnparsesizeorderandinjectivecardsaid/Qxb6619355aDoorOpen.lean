import Derived.Test.Qxb6619355aDoorLaws
import Derived.ProofKit
import Derived.LaidMore
import Derived.OpenShut
import Derived.ShutString
import Derived.Stop.Joined
import Derived.Stop.LaidErr
namespace Go.Proofs.Qxb6619355aDoor
open Go.ChangeShapes Go.WideShapes Go.ChangeAt Go.WideMaps Go.WideElems Go.RowKit

theorem own : ownKnob Tryd.prog.godebug = none := by kernel_rfl
theorem gSyn : Tryd.prog.globalNamed "strconv.ErrSyntax" = some 0 := by kernel_rfl
theorem gRan : Tryd.prog.globalNamed "strconv.ErrRange" = some 1 := by kernel_rfl
theorem tSyn : (Tryd.prog.globals[0]?).map (·.type) = some 29 := by kernel_rfl
theorem tRan : (Tryd.prog.globals[1]?).map (·.type) = some 29 := by kernel_rfl

theorem iface_cell {W : World} {n : String} {g : Nat} {cs : Array Value} {f : Nat} {d : DataW Unit} {nm : String} {p : List MemPlace} {enc : TypeId × Value → Unit} {base : Nat} {sp : Nat → Bool}
    (hg : Tryd.prog.globalNamed n = some g) (hv : W.var? Tryd.prog n = some cs) (h : DataW.trod enc Tryd.prog W base sp false f 29 cs.toList = some (.iface nm d, p)) : ∃ te pe, W.cell? ⟨g, 0, none⟩ = some (.iface te pe) := by
  obtain ⟨f1, u, v, hcs, _, _⟩ := iface_of_trod Tryd.underlying29 h
  have := World.var?_cell hg hv 0
  rw [Array.eq_one_of_toList hcs] at this
  exact ⟨u, v, by simpa using this⟩

/-- What the condition gives the walks: both sentinels' variables hold errors. -/
theorem of_laid {W : World} (h : laidMetH Tryd.prog Rows.fnParseSizeExactRow.laid W) : Sent W := by
  rw [MakeChecks.laidMetH_plain _ _ _ (by kernel_rfl)] at h
  obtain ⟨ps, ⟨g0, t0, cs0, f0, p0, q0, hg0, ht0, hv0, hd0, ⟨g1, t1, cs1, f1, p1, q1, hg1, ht1, hv1, hd1, ⟨g2, t2, cs2, f2, p2, q2, hg2, ht2, hv2, hd2, ⟨g3, t3, cs3, f3, p3, q3, hg3, ht3, hv3, hd3, ⟨g4, t4, cs4, f4, p4, q4, hg4, ht4, hv4, hd4, _, _⟩, _⟩, _⟩, _⟩, _⟩, _, _⟩ := h
  obtain rfl := Option.some.inj (gRan.symm.trans hg3)
  obtain rfl := Option.some.inj (gSyn.symm.trans hg4)
  obtain rfl := Option.some.inj (tRan.symm.trans ht3)
  obtain rfl := Option.some.inj (tSyn.symm.trans ht4)
  exact ⟨iface_cell hg4 hv4 hd4, iface_cell hg3 hv3 hd3⟩

/-- The door's own heap meets the condition: closed facts. -/
theorem door_met (os : Os) (args : Array Value) : laidMetH Tryd.prog Rows.fnParseSizeExactRow.laid ((World.doorLaid Tryd.prog 400 os).forCall (fun _ _ => 0) ⟨#[], args, []⟩).memory :=
  laidMetH_of_parts3 (fuel := 8) (laidMet_of_run' 8 (by kernel_rfl) (by kernel_rfl)) (by kernel_rfl) (by kernel_rfl)

end Go.Proofs.Qxb6619355aDoor
