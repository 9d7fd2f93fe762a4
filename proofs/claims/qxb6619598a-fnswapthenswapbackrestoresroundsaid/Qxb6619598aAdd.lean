import Derived.Test.Qxb6619598aShift
namespace Go.Proofs.Qxb6619598a
open Go.RowKit Go.WideShapes

set_option maxHeartbeats 1000000 in
set_option maxRecDepth 100000 in
theorem bounds_any (S D n j : Nat) (lo hi : Int) (y : Bool) (w : World) (h1 : w.cell? ⟨S, 1, none⟩ = some (.slice (some ⟨D, 0, none⟩) n n)) (h2 : w.cell? ⟨S, 2, none⟩ = some (.int .i64 lo)) (h3 : w.cell? ⟨S, 3, none⟩ = some (.int .i64 hi))
    (hd : w.cell? ⟨D, j, none⟩ = some (.bool y)) (hj : j < n) :
    Calls Try.prog 60 #[.pointer (some ⟨S, 0, none⟩), .int .i64 j] w fun e w' => e = .returned (.tuple #[.int .i64 (lim y lo), .int .i64 (lim y hi)]) ∧ Turns [] w w' := by
  have hjz : (j : Int) < (n : Int) := by omega
  go_enter Try.func60, Try.ntmps60
  cases y with
  | true =>
    go_wp2
    go_ret2
    exact ⟨rfl, Turns.refl _ _⟩
  | false =>
    go_wp2_with (go_quiet (fail))
    go_ret2
    exact ⟨rfl, (Turns.refl _ _).drewN _⟩

/-- A spread as the round carries it: its tallies are those of its counts. -/
structure Spr (w : World) (S C D n : Nat) (lo hi : Int) (cnt : List Int) (dr : List Bool) : Prop where
  s : Blk w S 74 #[.slice (some ⟨C, 0, none⟩) n n, .slice (some ⟨D, 0, none⟩) n n, .int .i64 lo, .int .i64 hi, .int .i64 (tA cnt dr hi n), .int .i64 (tB cnt dr lo n)]
  c : Blk w C 3 (iv cnt).toArray
  d : Blk w D 4 (bv dr).toArray
  nc : n = cnt.length
  nd : n = dr.length
  sc : S ≠ C
  sd : S ≠ D
  cd : C ≠ D

theorem addPlain {cnt : List Int} {dr : List Bool} {n j : Nat} {d lo hi : Int} (hn : n = cnt.length) (hj : j < n) (hd : -1 ≤ d ∧ d ≤ 1) (hf : Fit cnt lo hi) :
    (-536871000 ≤ iat cnt j ∧ iat cnt j ≤ 536871000) ∧ (-1 ≤ d ∧ d ≤ 1) ∧ (-536870912 ≤ lim (bat dr j) lo ∧ lim (bat dr j) lo ≤ 536870912) ∧ (-536870912 ≤ lim (bat dr j) hi ∧ lim (bat dr j) hi ≤ 536870912) ∧
    (0 ≤ tA cnt dr hi n ∧ tA cnt dr hi n ≤ 2097152000000000) ∧ (0 ≤ tB cnt dr lo n ∧ tB cnt dr lo n ≤ 2097152000000000) ∧
    tA (cnt.set j (iat cnt j + d)) dr hi n = tA cnt dr hi n - max (iat cnt j - lim (bat dr j) hi) 0 + max (iat cnt j + d - lim (bat dr j) hi) 0 ∧
    tB (cnt.set j (iat cnt j + d)) dr lo n = tB cnt dr lo n - max (lim (bat dr j) lo - iat cnt j) 0 + max (lim (bat dr j) lo - (iat cnt j + d)) 0 := by
  have hlen : cnt.length ≤ 1048576 := hf.1
  have h1 := tA_bound (dr := dr) hf (n := n) (by omega)
  have h2 := tB_bound (dr := dr) hf (n := n) (by omega)
  have h3 : (n : Int) ≤ 1048576 := by omega
  have hl := hf.2.2
  refine ⟨hf.2.1 j (by omega), hd, by simp only [lim]; split <;> omega, by simp only [lim]; split <;> omega, by omega, by omega, ?_, ?_⟩
  · have := sumTo_upd (fun k => ovr (iat cnt k) (bat dr k) hi) (fun k => ovr (iat (cnt.set j (iat cnt j + d)) k) (bat dr k) hi) n j hj (fun i _ hne => by
      simp only [iat_set cnt j i _ (by omega), if_neg hne])
    simp only [iat_set cnt j j _ (show j < cnt.length by omega), if_true] at this
    exact this
  · have := sumTo_upd (fun k => und (iat cnt k) (bat dr k) lo) (fun k => und (iat (cnt.set j (iat cnt j + d)) k) (bat dr k) lo) n j hj (fun i _ hne => by
      simp only [iat_set cnt j i _ (by omega), if_neg hne])
    simp only [iat_set cnt j j _ (show j < cnt.length by omega), if_true] at this
    exact this

set_option maxHeartbeats 2000000 in
set_option maxRecDepth 100000 in
theorem add_any (S C D n j : Nat) (d lo hi : Int) (cnt : List Int) (dr : List Bool) (w : World) (h : Spr w S C D n lo hi cnt dr) (hj : j < n) (hd : -1 ≤ d ∧ d ≤ 1) (hf : Fit cnt lo hi) :
    Calls Try.prog 48 #[.pointer (some ⟨S, 0, none⟩), .int .i64 j, .int .i64 d] w fun e w' => e = .returned (.tuple #[]) ∧ Turns [S, C] w w' ∧ Spr w' S C D n lo hi (cnt.set j (iat cnt j + d)) dr := by
  have hjz : (j : Int) < (n : Int) := by omega
  have hb := bounds_any S D n j lo hi (bat dr j) w (h.s.cell rfl) (h.s.cell rfl) (h.s.cell rfl) (h.d.cell (by simpa using bv_get (by rw [← h.nd]; exact hj))) hj
  have H := hide h
  have HF := hide hf
  clear h hf
  go_enter Try.func48, Try.ntmps48
  go_wp2_with fail
  refine hb.mono ?_
  rintro e w1 ⟨rfl, hT⟩
  clear hb
  have HT := hide hT
  have hS : Blk w1 S 74 #[.slice (some ⟨C, 0, none⟩) n n, .slice (some ⟨D, 0, none⟩) n n, .int .i64 lo, .int .i64 hi, .int .i64 (tA cnt dr hi n), .int .i64 (tB cnt dr lo n)] := hT.kept H.out.s (by simp)
  have hC : Blk w1 C 3 (iv cnt).toArray := hT.kept H.out.c (by simp)
  have hcx : (iv cnt).toArray[j]? = some (.int .i64 (iat cnt j)) := by simpa using iv_get (by rw [← H.out.nc]; exact hj)
  have HSC := hide H.out.sc
  have HCS := hide (fun h => H.out.sc h.symm : C ≠ S)
  have HP := hide (addPlain H.out.nc hj hd HF.out (dr := dr))
  have HSB := hide hS
  have HCB := hide hC
  clear hT
  have hcl : ∀ v3 : Value, ((iv cnt).toArray.setIfInBounds j v3)[j]? = some v3 := fun v3 => by
    have : j < (iv cnt).toArray.size := by have := H.out.nc; simp [iv]; omega
    rw [Array.getElem?_setIfInBounds_self_of_lt this]
  generalize tA cnt dr hi n = A at hS HP HSB
  generalize tB cnt dr lo n = B at hS HP HSB
  generalize hxx : iat cnt j = x at hcx HP
  have HXX := hide hxx
  clear hxx
  obtain ⟨M1, M2, M4, M5, hm⟩ : ∃ M1 M2 M4 M5 : Int, M1 = max (x - lim (bat dr j) hi) 0 ∧ M2 = max (lim (bat dr j) lo - x) 0 ∧ M4 = max (x + d - lim (bat dr j) hi) 0 ∧ M5 = max (lim (bat dr j) lo - (x + d)) 0 := ⟨_, _, _, _, rfl, rfl, rfl, rfl⟩
  have HM := hide hm
  clear hm
  generalize lim (bat dr j) lo = L at HP HM
  generalize lim (bat dr j) hi = U at HP HM
  have hp := HP.out
  have hmm := HM.out
  have m1 : ∀ (ts : Array TypeId) (t : TypeId) (w : World), (Builtin.max_ ts t #[.int .i64 (wrap64 (x - U)), .int .i64 0]).run Try.prog w = .ok (.int .i64 M1) w := fun ts t w => by
    rw [run_max_int2, show wrap64 (x - U) = x - U from by unfold wrap64; omega]; refine congrArg (fun z => Result.ok (Value.int .i64 z) w) ?_; split <;> omega
  have m2 : ∀ (ts : Array TypeId) (t : TypeId) (w : World), (Builtin.max_ ts t #[.int .i64 (wrap64 (L - x)), .int .i64 0]).run Try.prog w = .ok (.int .i64 M2) w := fun ts t w => by
    rw [run_max_int2, show wrap64 (L - x) = L - x from by unfold wrap64; omega]; refine congrArg (fun z => Result.ok (Value.int .i64 z) w) ?_; split <;> omega
  have hz : wrap64 (x + d) = x + d := by unfold wrap64; omega
  have m4 : ∀ (ts : Array TypeId) (t : TypeId) (w : World), (Builtin.max_ ts t #[.int .i64 (wrap64 (x + d - U)), .int .i64 0]).run Try.prog w = .ok (.int .i64 M4) w := fun ts t w => by
    rw [run_max_int2, show wrap64 (x + d - U) = x + d - U from by unfold wrap64; omega]; refine congrArg (fun z => Result.ok (Value.int .i64 z) w) ?_; split <;> omega
  have m5 : ∀ (ts : Array TypeId) (t : TypeId) (w : World), (Builtin.max_ ts t #[.int .i64 (wrap64 (L - (x + d))), .int .i64 0]).run Try.prog w = .ok (.int .i64 M5) w := fun ts t w => by
    rw [run_max_int2, show wrap64 (L - (x + d)) = L - (x + d) from by unfold wrap64; omega]; refine congrArg (fun z => Result.ok (Value.int .i64 z) w) ?_; split <;> omega
  have HZ := hide hz
  clear hp hmm hz
  -- region 1
  have a0 : w1.cell? ⟨S, 0, none⟩ = some (.slice (some ⟨C, 0, none⟩) n n) := hS.cell rfl
  have a4 : w1.cell? ⟨S, 4, none⟩ = some (.int .i64 A) := hS.cell rfl
  have aj : w1.cell? ⟨C, j, none⟩ = some (.int .i64 x) := hC.cell hcx
  have f4 : w1.frozen? ⟨S, 4, none⟩ = false := hS.frozen _
  have f5 : w1.frozen? ⟨S, 5, none⟩ = false := hS.frozen _
  have fj : w1.frozen? ⟨C, j, none⟩ = false := hC.frozen _
  go_wp2_with (go_region)
  have hS2 := (hS.set 4 (.int .i64 (wrap64 (A - M1)))).drew
  have hC2 := (hC.setOther (a := ⟨S, 4, none⟩) HCS.out (.int .i64 (wrap64 (A - M1)))).drew
  have HT2 := hide (((HT.out.mono (T := [S, C]) (by simp)).setCell (p := ⟨S, 4, none⟩) (by simp) (.int .i64 (wrap64 (A - M1)))).drew)
  clear hS hC a0 a4 aj f4 f5 fj HT HSB HCB m1
  generalize (w1.setCell ⟨S, 4, none⟩ (.int .i64 (wrap64 (A - M1)))).drew = w2 at hS2 hC2 HT2
  clear w1
  generalize hA1 : wrap64 (A - M1) = A1 at hS2
  have HA1 := hide hA1
  clear hA1
  -- region 2
  have a0 : w2.cell? ⟨S, 0, none⟩ = some (.slice (some ⟨C, 0, none⟩) n n) := hS2.cell rfl
  have a5 : w2.cell? ⟨S, 5, none⟩ = some (.int .i64 B) := hS2.cell rfl
  have aj : w2.cell? ⟨C, j, none⟩ = some (.int .i64 x) := hC2.cell hcx
  have f5 : w2.frozen? ⟨S, 5, none⟩ = false := hS2.frozen _
  have fj : w2.frozen? ⟨C, j, none⟩ = false := hC2.frozen _
  have bj : ∀ v, (w2.setCell ⟨S, 5, none⟩ v).cell? ⟨C, j, none⟩ = some (.int .i64 x) := fun v => (hC2.setOther (a := ⟨S, 5, none⟩) HCS.out v).cell hcx
  go_wp2_with (go_region)
  have hS3 := (((hS2.set 5 (.int .i64 (wrap64 (B - M2)))).setOther (a := ⟨C, j, none⟩) HSC.out (.int .i64 (wrap64 (x + d)))).drew)
  have hC3 := (((hC2.setOther (a := ⟨S, 5, none⟩) HCS.out (.int .i64 (wrap64 (B - M2)))).set j (.int .i64 (wrap64 (x + d)))).drew)
  have HT3 := hide (((HT2.out.setCell (p := ⟨S, 5, none⟩) (by simp) (.int .i64 (wrap64 (B - M2)))).setCell (p := ⟨C, j, none⟩) (by simp) (.int .i64 (wrap64 (x + d)))).drew)
  clear hS2 hC2 a0 a5 aj f5 fj bj HT2 m2
  generalize ((w2.setCell ⟨S, 5, none⟩ (.int .i64 (wrap64 (B - M2)))).setCell ⟨C, j, none⟩ (.int .i64 (wrap64 (x + d)))).drew = w3 at hS3 hC3 HT3
  clear w2
  generalize hB1 : wrap64 (B - M2) = B1 at hS3
  have HB1 := hide hB1
  clear hB1
  rw [HZ.out] at hC3
  rw [HZ.out]
  generalize hzz : x + d = z at hC3 m4 m5
  have HZZ := hide hzz
  clear hzz
  -- region 4
  have a0 : w3.cell? ⟨S, 0, none⟩ = some (.slice (some ⟨C, 0, none⟩) n n) := hS3.cell rfl
  have a4 : w3.cell? ⟨S, 4, none⟩ = some (.int .i64 A1) := hS3.cell rfl
  have aj : w3.cell? ⟨C, j, none⟩ = some (.int .i64 z) := hC3.cell (hcl _)
  have f4 : w3.frozen? ⟨S, 4, none⟩ = false := hS3.frozen _
  have f5 : w3.frozen? ⟨S, 5, none⟩ = false := hS3.frozen _
  have bj : ∀ v, (w3.setCell ⟨S, 4, none⟩ v).cell? ⟨C, j, none⟩ = some (.int .i64 z) := fun v => (hC3.setOther (a := ⟨S, 4, none⟩) HCS.out v).cell (hcl _)
  have b5 : ∀ v, (w3.setCell ⟨S, 4, none⟩ v).cell? ⟨S, 5, none⟩ = some (.int .i64 B1) := fun v => (hS3.set 4 v).cell rfl
  go_wp2_with (go_region)
  go_end0
  have hS4 := ((hS3.set 4 (.int .i64 (wrap64 (A1 + M4)))).set 5 (.int .i64 (wrap64 (B1 + M5))))
  have hC4 := ((hC3.setOther (a := ⟨S, 4, none⟩) HCS.out (.int .i64 (wrap64 (A1 + M4)))).setOther (a := ⟨S, 5, none⟩) HCS.out (.int .i64 (wrap64 (B1 + M5))))
  have hT4 := (((HT3.out.setCell (p := ⟨S, 4, none⟩) (by simp) (.int .i64 (wrap64 (A1 + M4)))).setCell (p := ⟨S, 5, none⟩) (by simp) (.int .i64 (wrap64 (B1 + M5)))))
  refine ⟨rfl, hT4.drew.drew, ?_⟩
  have hp := HP.out
  have hm := HM.out
  have ha1 := HA1.out
  have hb1 := HB1.out
  have hzz := HZZ.out
  have hxx := HXX.out
  have hdd := hT4.block D H.out.d.lt (by simp; exact ⟨fun h => H.out.sd h.symm, fun h => H.out.cd h.symm⟩)
  rw [hxx, hzz]
  rw [hzz] at hp hm
  have eA : wrap64 (A1 + M4) = tA (cnt.set j z) dr hi n := by rw [← ha1]; unfold wrap64; omega
  have eB : wrap64 (B1 + M5) = tB (cnt.set j z) dr lo n := by rw [← hb1]; unfold wrap64; omega
  refine ⟨?_, ?_, hdd.trans H.out.d, by have := H.out.nc; simp [this], H.out.nd, H.out.sc, H.out.sd, H.out.cd⟩
  · rw [eA, eB] at hS4 ⊢; exact hS4
  · rw [iv_set] at hC4; exact hC4

end Go.Proofs.Qxb6619598a
