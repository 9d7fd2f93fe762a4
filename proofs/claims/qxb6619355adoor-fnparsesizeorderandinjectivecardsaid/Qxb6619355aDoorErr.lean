import Derived.Test.Qxb6619355aDoorPu
import Derived.Test.Qxb6619355aDoorShelf
import Derived.Deep.RegionWith
import Derived.Lib.IfaceEq
namespace Go.Proofs.Qxb6619355aDoor
open Go.RowKit

theorem lt_of_cell {w : World} {a : Addr} {v : Value} (h : w.cell? a = some v) : a.block < w.heap.size := by
  refine Classical.byContradiction fun hn => ?_
  have : w.heap[a.block]? = none := Array.getElem?_eq_none (by omega)
  simp [World.cell?, this] at h

set_option maxHeartbeats 1000000 in
theorem sErr (fn s : ByteArray) (te : TypeId) (pe : Value) (w : World) (hlim : s.size ≤ 281474976710656) (hv : w.cell? ⟨0, 0, none⟩ = some (.iface te pe)) :
    Calls Tryd.prog 16 #[.string fn, .string s] w fun e w' => ∃ N, e = .returned (.pointer (some ⟨N, 0, none⟩)) ∧ Below w.heap.size w w' := by
  have hG := lt_of_cell hv
  have hvd : w.drew.cell? ⟨0, 0, none⟩ = some (.iface te pe) := hv
  go_enter Tryd.func16, Tryd.ntmps16
  go_wp2
  go_region_with (
      go_at_call 20
      refine (Tryd.stringslite_Clone s _ hlim).mono ?_
      rintro e w2 ⟨rfl, hbel⟩
      have hv2 : w2.cell? ⟨0, 0, none⟩ = some (.iface te pe) := (hbel.cell (show (⟨0, 0, none⟩ : Addr).block < w.drew.heap.size from hG)).trans hvd)
  all_goals (
    go_wp2
    go_ret
    have hs2 : w.heap.size ≤ w2.heap.size := hbel.size
    exact ⟨_, rfl, ((Below.drew (Below.refl _ w)).trans hbel).alloc hs2 _⟩)

set_option maxHeartbeats 1000000 in
theorem rErr (fn s : ByteArray) (te : TypeId) (pe : Value) (w : World) (hlim : s.size ≤ 281474976710656) (hv : w.cell? ⟨1, 0, none⟩ = some (.iface te pe)) :
    Calls Tryd.prog 17 #[.string fn, .string s] w fun e w' => ∃ N, e = .returned (.pointer (some ⟨N, 0, none⟩)) ∧ Below w.heap.size w w' := by
  have hG := lt_of_cell hv
  have hvd : w.drew.cell? ⟨1, 0, none⟩ = some (.iface te pe) := hv
  go_enter Tryd.func17, Tryd.ntmps17
  go_wp2
  go_region_with (
      go_at_call 20
      refine (Tryd.stringslite_Clone s _ hlim).mono ?_
      rintro e w2 ⟨rfl, hbel⟩
      have hv2 : w2.cell? ⟨1, 0, none⟩ = some (.iface te pe) := (hbel.cell (show (⟨1, 0, none⟩ : Addr).block < w.drew.heap.size from hG)).trans hvd)
  all_goals (
    go_wp2
    go_ret
    have hs2 : w.heap.size ≤ w2.heap.size := hbel.size
    exact ⟨_, rfl, ((Below.drew (Below.refl _ w)).trans hbel).alloc hs2 _⟩)

set_option maxHeartbeats 1000000 in
theorem toErr (fn s : ByteArray) (te te' : TypeId) (pe pe' : Value) (a b c : Int) (hc : c = 1 ∨ c = 2) (w : World) (hlim : s.size ≤ 281474976710656) (hv : w.cell? ⟨0, 0, none⟩ = some (.iface te pe)) (hv' : w.cell? ⟨1, 0, none⟩ = some (.iface te' pe')) :
    Calls Tryd.prog 13 #[.string fn, .string s, .int .i64 a, .int .i64 b, .iface 35 (.int .i64 c)] w fun e w' => ∃ N, e = .returned (.iface 38 (.pointer (some ⟨N, 0, none⟩))) ∧ Below w.heap.size w w' := by
  have heq : ∀ x y W, (binOp .eql 29 (.iface 35 (.int .i64 x)) (.iface 35 (.int .i64 y))).run Tryd.prog W = .ok (.bool (x == y)) W := fun x y W => Lib.run_eql_iface_int W x y Tryd.underlying29 (by kernel_rfl) Tryd.underlying35
  rcases hc with rfl | rfl
  · have hcall := rErr fn s te' pe' w hlim hv'
    clear hv hv'
    go_enter Tryd.func13, Tryd.ntmps13
    go_wp2_with (go_at_call 17; refine hcall.mono ?_; rintro e w2 ⟨N, rfl, hb⟩)
    go_ret
    exact ⟨N, rfl, hb⟩
  · have hcall := sErr fn s te pe w hlim hv
    clear hv hv'
    go_enter Tryd.func13, Tryd.ntmps13
    go_wp2_with (go_at_call 16; refine hcall.mono ?_; rintro e w2 ⟨N, rfl, hb⟩)
    go_ret
    exact ⟨N, rfl, hb⟩

end Go.Proofs.Qxb6619355aDoor
