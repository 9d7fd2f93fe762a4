import Derived.Test.Qxb6619598aSizeOK
namespace Go.Proofs.Qxb6619598a
open Go.RowKit Go.WideShapes

def bnd (x : Int) : Prop := -536870912 ≤ x ∧ x ≤ 536870912
/-- What the law's premise gives. -/
structure Prem (k0 k1 : List ByteArray) (fs : List FL) (i b : Int) (lc fc : List Int) (dr : List Bool) (x0 x1 y0 y1 : Int) : Prop where
  ring : inc k0
  fl : fs.length = k1.length
  i0 : 0 ≤ i
  i1 : i < (k1.length : Int)
  b0 : 0 ≤ b
  b1 : b < (k0.length : Int)
  ll : lc.length = k0.length
  lf : fc.length = k0.length
  ld : dr.length = k0.length
  rl : ∀ j, j < lc.length → bnd (iat lc j)
  rf : ∀ j, j < fc.length → bnd (iat fc j)
  bx0 : bnd x0
  bx1 : bnd x1
  by0 : bnd y0
  by1 : bnd y1
  lead : 0 ≤ idx k0 (sat k1 i.toNat)
  finc : inc (fat fs i.toNat).ks
  fno : idx (fat fs i.toNat).ks (sat k1 i.toNat) < 0
  fyes : 0 ≤ idx (fat fs i.toNat).ks (sat k0 b.toNat)

theorem lt_or_ge' (a b : Int) : a < b ∨ b ≤ a := by omega

set_option maxHeartbeats 4000000 in
set_option maxRecDepth 100000 in
theorem premise_any (a0 a1 a2 a5 a6 a7 : Option Addr) (n0 c0 n1 c1 n2 c2 n5 c5 n6 c6 n7 c7 : Nat) (k0 k1 : List ByteArray) (fs : List FL) (lc fc : List Int) (dr : List Bool) (i b x0 x1 y0 y1 : Int) (w : World)
    (e0 : n0 = k0.length) (e1 : n1 = k1.length) (e2 : n2 = fs.length) (e5 : n5 = lc.length) (e6 : n6 = fc.length) (e7 : n7 = dr.length) (r0 : Row w a0 (sv k0)) (r1 : Row w a1 (sv k1)) (r2 : FRow w a2 fs) (r5 : Row w a5 (iv lc)) (r6 : Row w a6 (iv fc))
    (hs : Small n0 n1 n2 n5 n6 n7 fs) :
    Calls Try.prog 17 #[.slice a0 n0 c0, .slice a1 n1 c1, .slice a2 n2 c2, .int .i64 i, .int .i64 b, .slice a5 n5 c5, .slice a6 n6 c6, .slice a7 n7 c7, .agg #[.int .i64 x0, .int .i64 x1], .agg #[.int .i64 y0, .int .i64 y1]] w
      fun e w' => RetIf (Prem k0 k1 fs i b lc fc dr x0 x1 y0 y1) e ∧ Below w.heap.size w w' := by
  obtain ⟨s0, s1, s2, s5, s6, s7, sf⟩ := hs
  have hb2 : Below w.heap.size w ((w.alloc (.cells #[.int .i64 x0, .int .i64 x1] 43)).alloc (.cells #[.int .i64 y0, .int .i64 y1] 43)) := ((Below.refl _ _).alloc (Nat.le_refl _) _).alloc (by simp) _
  have hcall := increasing_any a0 n0 c0 k0 _ e0 s0 (r0.below hb2)
  have G := hide (show ∀ (p : Prop) (e : Ending), e = .returned (.bool false) → RetIf p e from fun p e h => ⟨false, h, by simp⟩)
  have R0 := hide (r0.below hb2)
  have R1 := hide (r1.below hb2)
  have R2 := hide (r2.below hb2)
  have R5 := hide (r5.below hb2)
  have R6 := hide (r6.below hb2)
  have HB := hide hb2
  have E0 := hide e0
  have E1 := hide e1
  have E2 := hide e2
  have E5 := hide e5
  have E6 := hide e6
  have E7 := hide e7
  have SF := hide sf
  clear r0 r1 r2 r5 r6 hb2 e0 e1 e2 e5 e6 e7 sf
  have X0 := hide (show ((w.alloc (.cells #[.int .i64 x0, .int .i64 x1] 43)).alloc (.cells #[.int .i64 y0, .int .i64 y1] 43)).cell? ⟨w.heap.size, 0, none⟩ = some (.int .i64 x0) by simp)
  have X1 := hide (show ((w.alloc (.cells #[.int .i64 x0, .int .i64 x1] 43)).alloc (.cells #[.int .i64 y0, .int .i64 y1] 43)).cell? ⟨w.heap.size, 1, none⟩ = some (.int .i64 x1) by simp)
  have Y0 := hide (show ((w.alloc (.cells #[.int .i64 x0, .int .i64 x1] 43)).alloc (.cells #[.int .i64 y0, .int .i64 y1] 43)).cell? ⟨w.heap.size + 1, 0, none⟩ = some (.int .i64 y0) by simp)
  have Y1 := hide (show ((w.alloc (.cells #[.int .i64 x0, .int .i64 x1] 43)).alloc (.cells #[.int .i64 y0, .int .i64 y1] 43)).cell? ⟨w.heap.size + 1, 1, none⟩ = some (.int .i64 y1) by simp)
  have HSZ := hide (show ((w.alloc (.cells #[.int .i64 x0, .int .i64 x1] 43)).alloc (.cells #[.int .i64 y0, .int .i64 y1] 43)).heap.size = w.heap.size + 2 by simp)
  go_enter Try.func17, Try.ntmps17
  go_wp2_with fail
  generalize hW : (w.alloc (.cells #[.int .i64 x0, .int .i64 x1] 43)).alloc (.cells #[.int .i64 y0, .int .i64 y1] 43) = W at *
  clear hW
  refine hcall.mono ?_
  rintro e w1 ⟨⟨r, rfl, hr⟩, hb1⟩
  have x0c : w1.cell? ⟨w.heap.size, 0, none⟩ = some (.int .i64 x0) := by rw [hb1.cell (p := ⟨w.heap.size, 0, none⟩) (by rw [HSZ.out]; simp)]; exact X0.out
  have x1c : w1.cell? ⟨w.heap.size, 1, none⟩ = some (.int .i64 x1) := by rw [hb1.cell (p := ⟨w.heap.size, 1, none⟩) (by rw [HSZ.out]; simp)]; exact X1.out
  have y0c : w1.cell? ⟨w.heap.size + 1, 0, none⟩ = some (.int .i64 y0) := by rw [hb1.cell (p := ⟨w.heap.size + 1, 0, none⟩) (by rw [HSZ.out]; simp)]; exact Y0.out
  have y1c : w1.cell? ⟨w.heap.size + 1, 1, none⟩ = some (.int .i64 y1) := by rw [hb1.cell (p := ⟨w.heap.size + 1, 1, none⟩) (by rw [HSZ.out]; simp)]; exact Y1.out
  have S0 := hide (R0.out.below hb1)
  have S1 := hide (R1.out.below hb1)
  have S2 := hide (R2.out.below hb1)
  have S5 := hide (R5.out.below hb1)
  have S6 := hide (R6.out.below hb1)
  have HB1 := hide (HB.out.trans (hb1.mono (by rw [HSZ.out]; omega)))
  clear hb1 R0 R1 R2 R5 R6 HB X0 X1 Y0 Y1 HSZ hcall
  cases r with
  | false =>
    go_wp2_with fail
    go_ret
    exact ⟨G.out _ _ rfl, HB1.out⟩
  | true =>
    have HR := hide (hr rfl)
    clear hr
    cases h21 : ((n2 : Int) != (n1 : Int)) with
    | true =>
      go_wp2_with fail
      go_ret
      exact ⟨G.out _ _ rfl, HB1.out⟩
    | false =>
    have H21 := hide (show n2 = n1 by have := h21; simp at this; omega)
    by_cases hi0 : i < 0
    · go_wp2_with fail
      go_ret
      exact ⟨G.out _ _ rfl, HB1.out⟩
    by_cases hi1 : (n1 : Int) ≤ i
    · have hi0' : 0 ≤ i := by omega
      clear hi0
      go_wp2_with fail
      go_ret
      exact ⟨G.out _ _ rfl, HB1.out⟩
    by_cases hb0 : b < 0
    · have hi0' : 0 ≤ i := by omega
      have hi1' : i < (n1 : Int) := by omega
      clear hi0 hi1
      go_wp2_with fail
      go_ret
      exact ⟨G.out _ _ rfl, HB1.out⟩
    by_cases hb1 : (n0 : Int) ≤ b
    · have hi0' : 0 ≤ i := by omega
      have hi1' : i < (n1 : Int) := by omega
      have hb0' : 0 ≤ b := by omega
      clear hi0 hi1 hb0
      go_wp2_with fail
      go_ret
      exact ⟨G.out _ _ rfl, HB1.out⟩
    obtain ⟨q, rfl⟩ : ∃ q : Nat, i = q := ⟨i.toNat, by omega⟩
    obtain ⟨p, rfl⟩ : ∃ p : Nat, b = p := ⟨b.toNat, by omega⟩
    have hq : (q : Int) < (n1 : Int) := by omega
    have hp : (p : Int) < (n0 : Int) := by omega
    clear hi0 hi1 hb0 hb1
    cases h50 : ((n5 : Int) != (n0 : Int)) with
    | true =>
      go_wp2_with fail
      go_ret
      exact ⟨G.out _ _ rfl, HB1.out⟩
    | false =>
    cases h60 : ((n6 : Int) != (n0 : Int)) with
    | true =>
      go_wp2_with fail
      go_ret
      exact ⟨G.out _ _ rfl, HB1.out⟩
    | false =>
    cases h70 : ((n7 : Int) != (n0 : Int)) with
    | true =>
      go_wp2_with fail
      go_ret
      exact ⟨G.out _ _ rfl, HB1.out⟩
    | false =>
    have H5 := hide (show n5 = n0 by have := h50; simp at this; omega)
    have H6 := hide (show n6 = n0 by have := h60; simp at this; omega)
    have H7 := hide (show n7 = n0 by have := h70; simp at this; omega)
    go_wp2_with fail
    refine (inRange_any a5 n5 c5 lc w1 E5.out s5 S5.out).mono ?_
    rintro e w2 ⟨⟨r, rfl, hr⟩, hw⟩
    subst hw
    cases r with
    | false =>
      go_wp2_with fail
      go_ret
      exact ⟨G.out _ _ rfl, HB1.out⟩
    | true =>
    have HRL := hide (hr rfl)
    clear hr
    go_wp2_with fail
    refine (inRange_any a6 n6 c6 fc w2 E6.out s6 S6.out).mono ?_
    rintro e w3 ⟨⟨r, rfl, hr⟩, hw⟩
    subst hw
    cases r with
    | false =>
      go_wp2_with fail
      go_ret
      exact ⟨G.out _ _ rfl, HB1.out⟩
    | true =>
    have HRF := hide (hr rfl)
    clear hr
    go_wp2_with fail
    go_loop [21] (fun s21 => ∃ j : Nat, j ≤ 2 ∧ s21 = .int .i64 j ∧ Hid ((0 < j → bnd x0 ∧ bnd y0) ∧ (1 < j → bnd x1 ∧ bnd y1))) (fun s21 => 2 - (intOf s21).toNat)
    case atStart => exact ⟨0, by omega, rfl, (show Hid _ from ⟨fun h => absurd h (by omega), fun h => absurd h (by omega)⟩)⟩
    case round =>
      obtain ⟨j, hj, rfl, HJ⟩ := hrel
      obtain rfl | rfl | rfl : j = 0 ∨ j = 1 ∨ j = 2 := by omega
      · clear hj
        rcases lt_or_ge' x0 (-536870912) with h1 | h1
        · go_wp2_with fail; go_ret; exact ⟨G.out _ _ rfl, HB1.out⟩
        rcases lt_or_ge' 536870912 x0 with h2 | h2
        · go_wp2_with fail; go_ret; exact ⟨G.out _ _ rfl, HB1.out⟩
        rcases lt_or_ge' y0 (-536870912) with h3 | h3
        · go_wp2_with fail; go_ret; exact ⟨G.out _ _ rfl, HB1.out⟩
        rcases lt_or_ge' 536870912 y0 with h4 | h4
        · go_wp2_with fail; go_ret; exact ⟨G.out _ _ rfl, HB1.out⟩
        have HV := hide (show bnd x0 ∧ bnd y0 from ⟨⟨by omega, by omega⟩, ⟨by omega, by omega⟩⟩)
        go_wp2_with fail
        go_round
        case rel => exact ⟨1, by omega, by go_num, (show Hid _ from ⟨fun _ => HV.out, fun h => absurd h (by omega)⟩)⟩
        case measure => simp [intOf]
      · clear hj
        rcases lt_or_ge' x1 (-536870912) with h1 | h1
        · go_wp2_with fail; go_ret; exact ⟨G.out _ _ rfl, HB1.out⟩
        rcases lt_or_ge' 536870912 x1 with h2 | h2
        · go_wp2_with fail; go_ret; exact ⟨G.out _ _ rfl, HB1.out⟩
        rcases lt_or_ge' y1 (-536870912) with h3 | h3
        · go_wp2_with fail; go_ret; exact ⟨G.out _ _ rfl, HB1.out⟩
        rcases lt_or_ge' 536870912 y1 with h4 | h4
        · go_wp2_with fail; go_ret; exact ⟨G.out _ _ rfl, HB1.out⟩
        have HV := hide (show bnd x1 ∧ bnd y1 from ⟨⟨by omega, by omega⟩, ⟨by omega, by omega⟩⟩)
        go_wp2_with fail
        go_round
        case rel => exact ⟨2, by omega, by go_num, (show Hid _ from ⟨fun _ => HJ.out.1 (by omega), fun _ => HV.out⟩)⟩
        case measure => simp [intOf]
      · clear hj
        obtain ⟨b1, o1, rfl, _, hc1⟩ := S1.out q _ (sv_get (by rw [← E1.out]; omega))
        obtain ⟨b0, o0, rfl, _, hc0⟩ := S0.out p _ (sv_get (by rw [← E0.out]; omega))
        obtain ⟨b2, o2, rfl, _, hc2⟩ := S2.out.1 q _ (fv_get (by rw [← E2.out, H21.out]; omega))
        have RF := hide (S2.out.2 q (by rw [← E2.out, H21.out]; omega)).1
        have RFL := hide (SF.out q (by rw [← E2.out, H21.out]; omega))
        generalize hf : fat fs q = f at hc2 RF RFL
        have HFE := hide hf
        clear hf
        obtain ⟨fa, fc, fk⟩ := f
        simp only at hc2 RF RFL
        obtain ⟨m, hm⟩ : ∃ m, m = fk.length := ⟨_, rfl⟩
        rw [← hm] at hc2
        have HM := hide hm
        clear hm
        have hq2 : (q : Int) < (n2 : Int) := by rw [H21.out]; exact hq
        generalize hx : sat k1 q = x at hc1
        have HX := hide hx
        clear hx
        generalize hy : sat k0 p = y at hc0
        have HY := hide hy
        clear hy
        go_wp2_with fail
        refine (indexOf_any _ n0 c0 k0 x w3 E0.out s0 S0.out).mono ?_
        rintro e w4 ⟨rfl, hw⟩
        subst hw
        generalize hz : idx k0 x = z
        have HZ := hide hz
        clear hz
        rcases lt_or_ge' z 0 with hz0 | hz0
        · go_wp2_with fail
          go_ret
          exact ⟨G.out _ _ rfl, HB1.out⟩
        go_wp2_with fail
        refine (increasing_any _ _ _ fk w4 HM.out (by rw [HM.out]; exact RFL.out) RF.out).mono ?_
        rintro e w5 ⟨⟨r, rfl, hr⟩, hb5⟩
        have hcx : w5.cell? ⟨b1, o1 + q, none⟩ = some (.string x) := by rw [hb5.cell (p := ⟨b1, o1 + q, none⟩) (by assumption)]; exact hc1
        have hcy : w5.cell? ⟨b0, o0 + p, none⟩ = some (.string y) := by rw [hb5.cell (p := ⟨b0, o0 + p, none⟩) (by assumption)]; exact hc0
        have HB5 := hide (HB1.out.trans (hb5.mono HB1.out.size))
        have RF5 := hide (RF.out.below hb5)
        cases r with
        | false =>
          go_wp2_with fail
          go_ret
          exact ⟨G.out _ _ rfl, HB5.out⟩
        | true =>
        have HI := hide (hr rfl)
        clear hr
        go_wp2_with fail
        refine (indexOf_any _ _ _ fk x w5 HM.out (by rw [HM.out]; exact RFL.out) RF5.out).mono ?_
        rintro e w6 ⟨rfl, hw⟩
        subst hw
        generalize hz2 : idx fk x = z2
        have HZ2 := hide hz2
        clear hz2
        rcases lt_or_ge' z2 0 with hz20 | hz20
        case inr =>
          go_wp2_with fail
          go_ret
          exact ⟨G.out _ _ rfl, HB5.out⟩
        go_wp2_with fail
        refine (indexOf_any _ _ _ fk y w6 HM.out (by rw [HM.out]; exact RFL.out) RF5.out).mono ?_
        rintro e w7 ⟨rfl, hw⟩
        subst hw
        generalize hz3 : idx fk y = z3
        have HZ3 := hide hz3
        clear hz3
        rcases lt_or_ge' z3 0 with hz30 | hz30
        · go_wp2_with fail
          go_ret
          exact ⟨G.out _ _ rfl, HB5.out⟩
        go_wp2_with fail
        go_ret
        refine ⟨⟨true, rfl, fun _ => ?_⟩, HB5.out⟩
        have u1 := E0.out; have u2 := E1.out; have u3 := E2.out; have u4 := E5.out; have u5 := E6.out; have u6 := E7.out
        have u7 := H5.out; have u8 := H6.out; have u9 := H7.out; have u10 := H21.out
        have uf := HFE.out
        refine ⟨HR.out, by omega, by omega, by omega, by omega, by omega, by omega, by omega, by omega, HRL.out, HRF.out, (HJ.out.1 (by omega)).1, (HJ.out.2 (by omega)).1, (HJ.out.1 (by omega)).2, (HJ.out.2 (by omega)).2, ?_, ?_, ?_, ?_⟩
        · rw [Int.toNat_natCast, HX.out, HZ.out]; exact hz0
        · rw [Int.toNat_natCast, uf]; exact HI.out
        · rw [Int.toNat_natCast, uf, HX.out, HZ2.out]; exact hz20
        · rw [Int.toNat_natCast, Int.toNat_natCast, uf, HY.out, HZ3.out]; exact hz30

end Go.Proofs.Qxb6619598a
