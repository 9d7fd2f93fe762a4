import Derived.Test.Qxb6619598aClone
namespace Go.Proofs.Qxb6619598a
open Go.RowKit Go.WideShapes

theorem iv_set (xs : List Int) (j : Nat) (z : Int) : (iv xs).toArray.setIfInBounds j (.int .i64 z) = (iv (xs.set j z)).toArray := by simp [iv, List.map_set]
theorem bv_set (xs : List Bool) (j : Nat) (z : Bool) : (bv xs).toArray.setIfInBounds j (.bool z) = (bv (xs.set j z)).toArray := by simp [bv, List.map_set]
theorem sv_set (xs : List ByteArray) (j : Nat) (z : ByteArray) : (sv xs).toArray.setIfInBounds j (.string z) = (sv (xs.set j z)).toArray := by simp [sv, List.map_set]
theorem iat_set (xs : List Int) (j k : Nat) (z : Int) (hj : j < xs.length) : iat (xs.set j z) k = if k = j then z else iat xs k := by
  simp only [iat, List.getD_eq_getElem?_getD, List.getElem?_set]
  by_cases e : j = k
  · subst e; simp [hj]
  · rw [if_neg e, if_neg (fun h => e h.symm)]
/-- One up, one down. -/
def moved (xs : List Int) (u d : Nat) : List Int := (xs.set u (iat xs u + 1)).set d (iat xs d - 1)

set_option maxHeartbeats 1000000 in
set_option maxRecDepth 100000 in
theorem shifted_any (a : Option Addr) (n c : Nat) (xs : List Int) (u d : Nat) (w : World) (hn : n = xs.length) (hbig : n ≤ 1048576) (hu : u < n) (hd : d < n) (hud : u ≠ d) (hz : a = none → n = 0 ∧ c = 0) (hk : Row w a (iv xs))
    (hx : ∀ j, j < xs.length → -536870912 ≤ iat xs j ∧ iat xs j ≤ 536870912) :
    Calls Try.prog 27 #[.slice a n c, .int .i64 u, .int .i64 d] w fun e w' => ∃ g, w.heap.size ≤ g ∧ e = .returned (.slice (some ⟨g, 0, none⟩) n n) ∧ Turns [] w w' ∧ Blk w' g 3 (iv (moved xs u d)).toArray := by
  have hcall := clone18_any a n c xs w hn hbig hz hk
  have huz : (u : Int) < (n : Int) := by omega
  have hdz : (d : Int) < (n : Int) := by omega
  have HN := hide hn
  have HX := hide (hx u (by omega))
  have HY := hide (hx d (by omega))
  have HA := hide (show a = none → False from fun h => by have := (hz h).1; omega)
  clear hk hn hz hx
  go_enter Try.func27, Try.ntmps27
  go_wp2_with fail
  refine hcall.mono ?_
  rintro e w1 ⟨v, rfl, hT, ⟨h, _⟩ | ⟨g, hg, rfl, hB⟩⟩
  · exact (HA.out h).elim
  rw [show (iv xs).length = n from by rw [HN.out]; simp [iv]]
  have hc1 : w1.cell? ⟨g, u, none⟩ = some (.int .i64 (iat xs u)) := hB.cell (by simpa using iv_get (by rw [← HN.out]; omega))
  have hf1 : w1.frozen? ⟨g, u, none⟩ = false := hB.frozen _
  have hf2 : w1.frozen? ⟨g, d, none⟩ = false := hB.frozen _
  have hc2 : ∀ v, (w1.setCell ⟨g, u, none⟩ v).cell? ⟨g, d, none⟩ = some (.int .i64 (iat xs d)) := fun v =>
    (hB.set u v).cell (by rw [Array.getElem?_setIfInBounds_ne hud]; simpa using iv_get (by rw [← HN.out]; omega))
  have HT := hide hT
  have HB := hide hB
  have HG := hide hg
  clear hcall hT hB hg
  go_wp2_with fail
  go_ret
  refine ⟨g, HG.out, rfl, (HT.out.setNew HG.out _).setNew HG.out _, ?_⟩
  have hx := HX.out
  have hy := HY.out
  rw [show wrap64 (iat xs u + 1) = iat xs u + 1 from by unfold wrap64; omega, show wrap64 (iat xs d - 1) = iat xs d - 1 from by unfold wrap64; omega]
  have hh := (HB.out.set u (.int .i64 (iat xs u + 1))).set d (.int .i64 (iat xs d - 1))
  rw [iv_set, iv_set] at hh
  exact hh

end Go.Proofs.Qxb6619598a
