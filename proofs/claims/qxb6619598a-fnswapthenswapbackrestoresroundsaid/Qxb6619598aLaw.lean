import Derived.Test.Qxb6619598aLawKit
namespace Go.Proofs.Qxb6619598a
open Go.RowKit Go.WideShapes Go.Maps Go.WideMaps

set_option maxHeartbeats 2000000 in
set_option maxRecDepth 100000 in
theorem law_any (a0 a1 a2 a5 a6 a7 : Option Addr) (n0 c0 n1 c1 n2 c2 n5 c5 n6 c6 n7 c7 : Nat) (k0 k1 : List ByteArray) (fs : List FL) (lc fc : List Int) (dr : List Bool) (i b x0 x1 y0 y1 bud : Int) (w : World)
    (h : In w a0 a1 a2 a5 a6 a7 n0 c0 n1 c1 n2 c2 n5 c5 n6 c6 n7 c7 k0 k1 fs lc fc dr) :
    Calls Try.prog 5 #[.slice a0 n0 c0, .slice a1 n1 c1, .slice a2 n2 c2, .int .i64 i, .int .i64 b, .slice a5 n5 c5, .slice a6 n6 c6, .slice a7 n7 c7, .agg #[.int .i64 x0, .int .i64 x1], .agg #[.int .i64 y0, .int .i64 y1], .int .i64 bud] w
      fun e w' => e = .returned (.bool true) ∧ Turns [] w w' := by
  have hTa : Turns [] w ((w.alloc (.cells #[.int .i64 x0, .int .i64 x1] 43)).alloc (.cells #[.int .i64 y0, .int .i64 y1] 43)) := ((Turns.refl _ w).alloc _).alloc _
  have hX : Blk ((w.alloc (.cells #[.int .i64 x0, .int .i64 x1] 43)).alloc (.cells #[.int .i64 y0, .int .i64 y1] 43)) w.heap.size 43 #[.int .i64 x0, .int .i64 x1] := (blk_new rfl).alloc _
  have hY : Blk ((w.alloc (.cells #[.int .i64 x0, .int .i64 x1] 43)).alloc (.cells #[.int .i64 y0, .int .i64 y1] 43)) (w.heap.size + 1) 43 #[.int .i64 y0, .int .i64 y1] := blk_new (by simp)
  have hI := h.turns hTa
  have hcall := bytes_any a0 a1 a2 a5 a6 a7 n0 c0 n1 c1 n2 c2 n5 c5 n6 c6 n7 c7 k0 k1 fs i b x0 x1 y0 y1 bud _ h.e0 h.e1 h.e2 hI.r0 hI.r1 hI.r2
  have HT := hide hTa
  have HX := hide hX
  have HY := hide hY
  have HI := hide hI
  clear h hTa hX hY hI
  go_enter Try.func5, Try.ntmps5
  go_wp2_with fail
  generalize (w.alloc (.cells #[.int .i64 x0, .int .i64 x1] 43)).alloc (.cells #[.int .i64 y0, .int .i64 y1] 43) = w1 at *
  generalize w.heap.size + 1 = KY at *
  generalize hKX : w.heap.size = KX at *
  refine hcall.mono ?_
  rintro e w2 ⟨⟨r, rfl, hr⟩, hb2⟩
  clear hcall
  have hT2 := turns_of_below hb2
  have HT2 := hide (HT.out.trans hT2)
  have HX2 := hide (hT2.kept HX.out (by simp))
  have HY2 := hide (hT2.kept HY.out (by simp))
  have HI2 := hide (HI.out.turns hT2)
  clear HT HX HY HI hT2 hb2
  cases r with
  | false =>
    go_wp2_with fail
    go_ret
    exact ⟨rfl, HT2.out⟩
  | true =>
  have HSM := hide (hr rfl)
  clear hr
  have hcall := sizeOK_any a0 a1 a2 a5 a6 a7 n0 c0 n1 c1 n2 c2 n5 c5 n6 c6 n7 c7 k0 k1 fs w2 HI2.out.e0 HI2.out.e1 HI2.out.e2 HI2.out.r0 HI2.out.r1 HI2.out.r2 HSM.out
  go_wp2_with fail
  refine hcall.mono ?_
  rintro e w3 ⟨⟨r, rfl⟩, hw⟩
  subst hw
  clear hcall
  cases r with
  | false =>
    go_wp2_with fail
    go_ret
    exact ⟨rfl, HT2.out⟩
  | true =>
  have hcall := premise_any a0 a1 a2 a5 a6 a7 n0 c0 n1 c1 n2 c2 n5 c5 n6 c6 n7 c7 k0 k1 fs lc fc dr i b x0 x1 y0 y1 w3 HI2.out.e0 HI2.out.e1 HI2.out.e2 HI2.out.e5 HI2.out.e6 HI2.out.e7 HI2.out.r0 HI2.out.r1 HI2.out.r2 HI2.out.r5 HI2.out.r6 HSM.out
  have cx0 : w3.cell? ⟨KX, 0, none⟩ = some (.int .i64 x0) := HX2.out.cell rfl
  have cx1 : w3.cell? ⟨KX, 1, none⟩ = some (.int .i64 x1) := HX2.out.cell rfl
  have cy0 : w3.cell? ⟨KY, 0, none⟩ = some (.int .i64 y0) := HY2.out.cell rfl
  have cy1 : w3.cell? ⟨KY, 1, none⟩ = some (.int .i64 y1) := HY2.out.cell rfl
  go_wp2_with fail
  refine hcall.mono ?_
  rintro e w4 ⟨⟨r, rfl, hr⟩, hb4⟩
  clear hcall cx0 cx1 cy0 cy1
  have hT4 := turns_of_below hb4
  have HT4 := hide (HT2.out.trans hT4)
  have HX4 := hide (hT4.kept HX2.out (by simp))
  have HY4 := hide (hT4.kept HY2.out (by simp))
  have HI4 := hide (HI2.out.turns hT4)
  clear HT2 HX2 HY2 HI2 hT4 hb4
  cases r with
  | false =>
    go_wp2_with fail
    go_ret
    exact ⟨rfl, HT4.out⟩
  | true =>
  have HP := hide (hr rfl)
  clear hr
  obtain ⟨q, rfl⟩ : ∃ q : Nat, i = q := ⟨i.toNat, by have := HP.out.i0; omega⟩
  obtain ⟨p, rfl⟩ : ∃ p : Nat, b = p := ⟨b.toNat, by have := HP.out.b0; omega⟩
  obtain rfl : n2 = n1 := by have := HI4.out.e1; have := HI4.out.e2; have := HP.out.fl; omega
  obtain rfl : n5 = n0 := by have := HI4.out.e0; have := HI4.out.e5; have := HP.out.ll; omega
  obtain rfl : n6 = n5 := by have := HI4.out.e0; have := HI4.out.e6; have := HP.out.lf; omega
  obtain rfl : n7 = n6 := by have := HI4.out.e0; have := HI4.out.e7; have := HP.out.ld; omega
  have hq : q < n2 := by have := HI4.out.e1; have := HP.out.i1; omega
  have hp : p < n7 := by have := HI4.out.e0; have := HP.out.b1; omega
  have hqz : (q : Int) < (n2 : Int) := by omega
  have hpz : (p : Int) < (n7 : Int) := by omega
  have s0 : n7 ≤ 1048576 := HSM.out.1
  have s1 : n2 ≤ 1048576 := HSM.out.2.1
  obtain ⟨b1, o1, rfl, hb1, hc1⟩ := HI4.out.r1 q _ (sv_get (by rw [← HI4.out.e1]; exact hq))
  have hcall := indexOf_any a0 n7 c0 k0 (sat k1 q) w4 HI4.out.e0 s0 HI4.out.r0
  obtain ⟨a, ha⟩ : ∃ a : Nat, idx k0 (sat k1 q) = a := ⟨(idx k0 (sat k1 q)).toNat, by have := HP.out.lead; rw [Int.toNat_natCast] at this; omega⟩
  rw [ha] at hcall
  have HA := hide ha
  clear ha
  generalize sat k1 q = lq at hc1 hcall
  go_wp2_with fail
  refine hcall.mono ?_
  rintro e w5 ⟨rfl, hw⟩
  subst hw
  clear hcall hc1
  obtain ⟨i9, hi9, hz9, hs9, hy9⟩ := info_parts Try.info49
  have hb80 : i9.bytes * n2 ≤ 281474976710656 := by rw [hy9]; omega
  go_wp2_with (at_make; refine wpList_make_full _ rfl _ _ 47 rfl w5.heap.size 49 i9 _ 5 Try.underlying47 hi9 hz9 hs9 _ _ _ _ n2 rfl rfl rfl rfl hb80 (by unfold maxLen; omega) (Nat.le_refl _) ?_; intro w6 ho hg)
  have HS0 := hide (show ∃ arr G, Slots w6 w5.heap.size n2 0 arr G k1 fs from ⟨_, fun _ => none, own_block5 ho, by have := ho.1; simpa using this, fun j hj => absurd hj (Nat.not_lt_zero _), fun j hj => absurd hj (Nat.not_lt_zero _), fun j j' _ hj => absurd hj (Nat.not_lt_zero _)⟩)
  have HT6 := hide ((Turns.refl [] w5).grownNew hg (by simp))
  clear ho hg hi9 hz9 hs9 hy9 hb80
  have hSB : b1 < w5.heap.size := hb1
  go_loopw [25] (fun s25 wr => ∃ k : Nat, k ≤ n2 ∧ s25 = .int .i64 k ∧ Hid (∃ arr G, Slots wr w5.heap.size n2 k arr G k1 fs) ∧ Hid (Turns [] w5 wr)) (fun s25 _ => n2 - (intOf s25).toNat)
  case atStart => exact ⟨0, Nat.zero_le _, rfl, HS0, HT6⟩
  case round =>
    obtain ⟨k, hk, rfl, HSL, HT⟩ := hrel
    by_cases hlt : k < n2
    · have hlz : (k : Int) < (n2 : Int) := by omega
      obtain ⟨arr, G, hsl⟩ := HSL.out
      obtain ⟨u0, hu0⟩ := arr_some (arr := arr) (j := k * 5) (by rw [hsl.size]; omega)
      obtain ⟨u1, hu1⟩ := arr_some (arr := arr) (j := k * 5 + 1) (by rw [hsl.size]; omega)
      obtain ⟨u3, hu3⟩ := arr_some (arr := arr) (j := k * 5 + 3) (by rw [hsl.size]; omega)
      have HI := HI4.out.turns HT.out
      obtain ⟨b1', o1', e1, _, hc1⟩ := HI.r1 k _ (sv_get (by rw [← HI.e1]; exact hlt))
      simp only [Option.some.injEq, Addr.mk.injEq, and_true] at e1
      obtain ⟨rfl, rfl⟩ := e1
      obtain ⟨b2, o2, rfl, _, hc2⟩ := HI.r2.1 k _ (fv_get (by rw [← HI.e2]; exact hlt))
      have hb2 : b2 < w5.heap.size := by
        obtain ⟨b2', o2', e2, h2, _⟩ := HI4.out.r2.1 k _ (fv_get (by rw [← HI.e2]; exact hlt))
        cases e2; exact h2
      have d0 : wr.cell? ⟨w5.heap.size, k * 5, none⟩ = some u0 := hsl.blk.cell hu0
      have g0 : wr.frozen? ⟨w5.heap.size, k * 5, none⟩ = false := hsl.blk.frozen _
      have g1 : wr.frozen? ⟨w5.heap.size, k * 5 + 1, none⟩ = false := hsl.blk.frozen _
      have d1 : ∀ v, (wr.setCell ⟨w5.heap.size, k * 5, none⟩ v).cell? ⟨w5.heap.size, k * 5 + 1, none⟩ = some u1 := fun v => (hsl.blk.set (k * 5) v).cell (by rw [Array.getElem?_setIfInBounds_ne (by omega)]; exact hu1)
      have e1 : ∀ v, (wr.setCell ⟨w5.heap.size, k * 5, none⟩ v).cell? ⟨b1, o1 + k, none⟩ = some (.string (sat k1 k)) := fun v =>
        (World.cell?_of_block (w := wr) (heap_setCell_other wr ⟨w5.heap.size, k * 5, none⟩ b1 v (by simp; omega))).trans hc1
      have e2 : ∀ v v', ((wr.setCell ⟨w5.heap.size, k * 5, none⟩ v).setCell ⟨w5.heap.size, k * 5 + 1, none⟩ v').cell? ⟨b2, o2 + k, none⟩ = some (.slice (fat fs k).a (fat fs k).ks.length (fat fs k).c) := fun v v' =>
        (World.cell?_of_block (w := wr) ((heap_setCell_other _ ⟨w5.heap.size, k * 5 + 1, none⟩ b2 v' (by simp; omega)).trans (heap_setCell_other wr ⟨w5.heap.size, k * 5, none⟩ b2 v (by simp; omega)))).trans hc2
      have HSL' := hide hsl
      have HU3 := hide hu3
      clear hsl hu0 hu1 hu3 hc1 hc2 HSL HI
      generalize hy : sat k1 k = y at e1
      have HYY := hide hy
      clear hy
      generalize hfa : fat fs k = F at e2
      have HFA := hide hfa
      clear hfa
      obtain ⟨fa, fc', fk⟩ := F
      simp only at e2
      generalize hm : fk.length = m at e2
      have HM := hide hm
      clear hm
      have HTT := hide (fun v v' => ((HT.out.setNew (p := ⟨w5.heap.size, k * 5, none⟩) (Nat.le_refl _) v).setNew (p := ⟨w5.heap.size, k * 5 + 1, none⟩) (Nat.le_refl _) v'))
      go_wp2_with fail
      have hT2 := HTT.out (.int .i64 k) (.string y)
      generalize hw2 : (wr.setCell ⟨w5.heap.size, k * 5, none⟩ (.int .i64 k)).setCell ⟨w5.heap.size, k * 5 + 1, none⟩ (.string y) = w2 at hT2
      have hrow := (HI4.out.turns hT2).r2.2 k (by rw [← HI4.out.e2]; exact hlt)
      rw [HFA.out] at hrow
      simp only at hrow
      have hfl := HSM.out.2.2.2.2.2.2 k (by rw [← HI4.out.e2]; exact hlt)
      rw [HFA.out] at hfl
      simp only at hfl
      refine (clone8_any fa m fc' fk w2 HM.out.symm (by rw [← HM.out]; exact hfl) (fun h => by have h2 := hrow.2 h; have h1 := HM.out; rw [h2.1] at h1; exact ⟨by simp at h1; omega, h2.2⟩) hrow.1).mono ?_
      rintro e w3 ⟨v, rfl, hT3, hv⟩
      have hblk : Blk w2 w5.heap.size 49 ((arr.setIfInBounds (k * 5) (.int .i64 k)).setIfInBounds (k * 5 + 1) (.string y)) := by rw [← hw2]; exact (HSL'.out.blk.set _ _).set _ _
      have hblk3 := hT3.kept hblk (by simp)
      have d3 : w3.cell? ⟨w5.heap.size, k * 5 + 3, none⟩ = some u3 := hblk3.cell (by rw [Array.getElem?_setIfInBounds_ne (by omega), Array.getElem?_setIfInBounds_ne (by omega)]; exact HU3.out)
      have g3 : w3.frozen? ⟨w5.heap.size, k * 5 + 3, none⟩ = false := hblk3.frozen _
      have HSTEP := hide (slots_step HSL'.out hlt (.int .i64 k) v (w2 := w2) (w3 := w3) (by rw [HYY.out]; exact hw2.symm) hT3 (by rw [HFA.out]; exact hv) (by rw [HFA.out]; exact fun h => (hrow.2 h).1))
      have HTN := hide ((hT2.trans hT3).setNew (p := ⟨w5.heap.size, k * 5 + 3, none⟩) (Nat.le_refl _) v)
      obtain ⟨va, vn, vc, rfl⟩ : ∃ va vn vc, v = .slice va vn vc := by
        rcases hv with ⟨_, h⟩ | ⟨g, _, h, _⟩
        · exact ⟨_, _, _, h⟩
        · exact ⟨_, _, _, h⟩
      clear hv hblk hblk3 hT3 hT2 hrow hfl hw2 d0 d1 e1 e2 g0 g1 HSL' HTT HT
      go_wp2_with fail
      go_roundw
      case rel => exact ⟨k + 1, by omega, by go_num, HSTEP, HTN⟩
      case measure => simp [intOf]; omega
    · obtain rfl : k = n2 := by omega
      clear hk
      go_wp2_with fail
      have hTB : Blk (wr.alloc (.cells #[.int .i64 1, .int .u64 1, .slice (some ⟨w5.heap.size, 0, none⟩) k k, .slice none 0 0] 53)) wr.heap.size 53 #[.int .i64 1, .int .u64 1, .slice (some ⟨w5.heap.size, 0, none⟩) k k, .slice none 0 0] := blk_new rfl
      have ht := (Turns.refl [] wr).alloc (.cells #[.int .i64 1, .int .u64 1, .slice (some ⟨w5.heap.size, 0, none⟩) k k, .slice none 0 0] 53)
      generalize wr.alloc (.cells #[.int .i64 1, .int .u64 1, .slice (some ⟨w5.heap.size, 0, none⟩) k k, .slice none 0 0] 53) = wt at hTB ht
      generalize hTBr : wr.heap.size = TB at hTB
      have HTBr := hide hTBr
      clear hTBr
      have hI := (HI4.out.turns HT.out).turns ht
      have hnn : ∀ (a : Option Addr) (c : Nat), (a = none → n7 = 0 ∧ c = 0) → a ≠ none := fun a c h e => by have := (h e).1; omega
      have hl5 : (iv lc).length = n7 := by rw [iv_len]; exact hI.e5.symm
      have hl6 : (iv fc).length = n7 := by rw [iv_len]; exact hI.e6.symm
      have hl7 : (bv dr).length = n7 := by rw [bv_len]; exact hI.e7.symm
      have hl0 : (sv k0).length = n7 := by rw [sv_len]; exact hI.e0.symm
      have HNN := hide hnn
      have HL5 := hide hl5
      have HL6 := hide hl6
      have HL7 := hide hl7
      have HL0 := hide hl0
      clear hnn hl5 hl6 hl7 hl0
      refine (clone18_any a5 n7 c5 lc wt hI.e5 s0 hI.z5 hI.r5).mono ?_
      rintro e wA ⟨v, rfl, hA, ⟨h, _⟩ | ⟨C1, hC1, rfl, bC1⟩⟩
      · exact (HNN.out _ _ hI.z5 h).elim
      rw [HL5.out]
      have hI' := hI.turns hA
      have hcall := clone18_any a6 n7 c6 fc wA hI'.e6 s0 hI'.z6 hI'.r6
      have NN6 := hide (HNN.out _ _ hI'.z6)
      have P1 := hide ht
      have P2 := hide hTB
      have P3 := hide hA
      have P4 := hide bC1
      have P5 := hide hC1
      have HI5 := hide hI'
      clear hI hI' ht hTB hA bC1 hC1
      go_wp2_with fail
      refine hcall.mono ?_
      rintro e wB ⟨v, rfl, hB, ⟨h, _⟩ | ⟨C2, hC2, rfl, bC2⟩⟩
      · exact (NN6.out h).elim
      clear hcall
      rw [HL6.out]
      have hI' := HI5.out.turns hB
      have hcall := clone19_any a7 n7 c7 dr wB hI'.e7 s0 hI'.z7 hI'.r7
      have NN7 := hide (HNN.out _ _ hI'.z7)
      have P6 := hide hB
      have P7 := hide bC2
      have P8 := hide hC2
      have HI6 := hide hI'
      clear hI' hB bC2 hC2 HI5
      go_wp2_with fail
      refine hcall.mono ?_
      rintro e wC ⟨v, rfl, hC, ⟨h, _⟩ | ⟨D, hD, rfl, bD⟩⟩
      · exact (NN7.out h).elim
      clear hcall
      rw [HL7.out]
      have P9 := hide hC
      have P10 := hide bD
      have P11 := hide hD
      have hm29 := run_make_row' (P := Try.prog) 29 4 (.bool false) 1 Try.underlying29 Try.info4 rfl .i64 .i64 k (by omega) (by omega) wC
      have hTD := (Turns.refl [] wC).alloc (.cells (madeCells #[.bool false] k) 4)
      have hCH : Blk (wC.alloc (.cells (madeCells #[.bool false] k) 4)) wC.heap.size 4 (bv (List.replicate k false)).toArray := by rw [← made_false]; exact blk_new rfl
      have hTr : Turns [] w5 (wC.alloc (.cells (madeCells #[.bool false] k) 4)) := HT.out.trans (P1.out.trans (P3.out.trans (P6.out.trans (hC.trans hTD))))
      have hXD := hTr.kept HX4.out (by simp)
      have hYD := hTr.kept HY4.out (by simp)
      have cx0 : (wC.alloc (.cells (madeCells #[.bool false] k) 4)).cell? ⟨KX, 0, none⟩ = some (.int .i64 x0) := hXD.cell rfl
      have cx1 : (wC.alloc (.cells (madeCells #[.bool false] k) 4)).cell? ⟨KX, 1, none⟩ = some (.int .i64 x1) := hXD.cell rfl
      have cy0 : (wC.alloc (.cells (madeCells #[.bool false] k) 4)).cell? ⟨KY, 0, none⟩ = some (.int .i64 y0) := hYD.cell rfl
      have cy1 : (wC.alloc (.cells (madeCells #[.bool false] k) 4)).cell? ⟨KY, 1, none⟩ = some (.int .i64 y1) := hYD.cell rfl
      have P12 := hide hTD
      have P13 := hide hCH
      have HXD := hide hXD
      have HYD := hide hYD
      have HTR := hide hTr
      clear hC bD hD hTD hCH hXD hYD hTr HI6
      go_wp2_with fail
      clear hm29
      generalize wC.alloc (.cells (madeCells #[.bool false] k) 4) = wD at *
      have HID := hide (HI4.out.turns HTR.out)
      have HF1 := hide (show Fit lc x0 x1 from ⟨by have := HID.out.e5; omega, fun j hj => by have := HP.out.rl j hj; simp only [bnd] at this; omega, HP.out.bx0, HP.out.bx1⟩)
      have HF2 := hide (show Fit fc y0 y1 from ⟨by have := HID.out.e6; omega, fun j hj => by have := HP.out.rf j hj; simp only [bnd] at this; omega, HP.out.by0, HP.out.by1⟩)
      refine (tallies_any a5 a7 n7 c5 n7 c7 lc dr x0 x1 wD HID.out.e5 HID.out.e7 rfl HF1.out HID.out.r5 HID.out.r7).mono ?_
      rintro e w' ⟨rfl, hw⟩
      subst hw
      have hcall := tallies_any a6 a7 n7 c6 n7 c7 fc dr y0 y1 w' HID.out.e6 HID.out.e7 rfl HF2.out HID.out.r6 HID.out.r7
      go_wp2_with fail
      refine hcall.mono ?_
      clear hcall
      rintro e w'' ⟨rfl, hw⟩
      subst hw
      have hcall := clone8_any a0 n7 c0 k0 w'' HID.out.e0 s0 HID.out.z0 HID.out.r0
      have NN0 := hide (HNN.out _ _ HID.out.z0)
      clear cx0 cx1 cy0 cy1
      go_wp2_with fail
      refine hcall.mono ?_
      clear hcall
      rintro e wE ⟨v, rfl, hE, ⟨h, _⟩ | ⟨RB, hRB, rfl, bRB⟩⟩
      · exact (NN0.out h).elim
      rw [HL0.out]
      have hcall := zzlive_any (some ⟨RB, 0, none⟩) n7 n7 k0 wE HID.out.e0 s0 (bRB.row _ rfl) HID.out.sz
      have P14 := hide hE
      have P15 := hide bRB
      have P16 := hide hRB
      clear hE bRB hRB
      go_wp2_with fail
      refine hcall.mono ?_
      clear hcall
      rintro e wF ⟨LB, M, rfl, hM, hML, hF, hLB, hmap⟩
      have hTF := HTR.out.trans (P14.out.trans hF)
      have hXF := hTF.kept HX4.out (by simp)
      have hYF := hTF.kept HY4.out (by simp)
      have cx0 : wF.cell? ⟨KX, 0, none⟩ = some (.int .i64 x0) := hXF.cell rfl
      have cx1 : wF.cell? ⟨KX, 1, none⟩ = some (.int .i64 x1) := hXF.cell rfl
      have cy0 : wF.cell? ⟨KY, 0, none⟩ = some (.int .i64 y0) := hYF.cell rfl
      have cy1 : wF.cell? ⟨KY, 1, none⟩ = some (.int .i64 y1) := hYF.cell rfl
      have P17 := hide hM
      have P18 := hide hML
      have P19 := hide hF
      have P20 := hide hLB
      have P21 := hide hmap
      have HTF := hide hTF
      have HXF := hide hXF
      have HYF := hide hYF
      clear hM hML hF hLB hmap hTF hXF hYF HXD HYD
      have hcall := makeRound_any (.pointer (some ⟨TB, 0, none⟩)) (.pointer (some ⟨LB, 0, none⟩)) (.slice (some ⟨C1, 0, none⟩) n7 n7) (.slice (some ⟨C2, 0, none⟩) n7 n7) (.slice (some ⟨D, 0, none⟩) n7 n7) x0 x1 (tA lc dr x1 n7) (tB lc dr x0 n7) y0 y1 (tA fc dr y1 n7) (tB fc dr y0 n7) bud (.slice (some ⟨wC.heap.size, 0, none⟩) k k) wF ⟨_, rfl⟩ ⟨_, rfl⟩ ⟨_, _, _, rfl⟩ ⟨_, _, _, rfl⟩ ⟨_, _, _, rfl⟩ ⟨_, _, _, rfl⟩
      go_wp2_with fail
      refine hcall.mono ?_
      clear hcall cx0 cx1 cy0 cy1
      rintro e wG ⟨rfl, hG, bS1, bS2, bR⟩
      obtain ⟨arr, G, hsl⟩ := HSL.out
      have hPr := HP.out
      have hyes : 0 ≤ idx (fat fs q).ks (sat k0 p) := by have := hPr.fyes; rwa [Int.toNat_natCast, Int.toNat_natCast] at this
      have hno : idx (fat fs q).ks (sat k1 q) < 0 := by have := hPr.fno; rwa [Int.toNat_natCast] at this
      have hfin : inc (fat fs q).ks := by have := hPr.finc; rwa [Int.toNat_natCast] at this
      have hla := idx_pos (ks := k0) (x := sat k1 q) (by rw [HA.out]; omega)
      rw [HA.out, Int.toNat_natCast] at hla
      have ha7 : a < n7 := by have := HID.out.e0; omega
      have hab : a ≠ p := by
        intro e
        subst e
        rw [hla.2] at hyes
        omega
      obtain ⟨FB, hGF, hSF, hsf, bFB⟩ : ∃ x, G q = some x ∧ w5.heap.size < x ∧ arr[q * 5 + 3]? = some (.slice (some ⟨x, 0, none⟩) (fat fs q).ks.length (fat fs q).ks.length) ∧ Blk wr x 9 (sv (fat fs q).ks).toArray := by
        rcases hsl.sf q hq with ⟨_, h, _⟩ | h
        · rw [h] at hyes; simp [idx, idxFrom] at hyes
        · exact h
      obtain ⟨v2, v3, v4, v5, v6, v7, bLB⟩ := P20.out
      have tFG := hG
      have tEG := P19.out.trans tFG
      have tDG := P14.out.trans tEG
      have tCG := P12.out.trans tDG
      have tBG := P9.out.trans tCG
      have tAG := P6.out.trans tBG
      have ttG := P3.out.trans tAG
      have trG := P1.out.trans ttG
      have q1 : FB < TB := by rw [← HTBr.out]; exact bFB.lt
      have q2 : TB < C1 := Nat.lt_of_lt_of_le P2.out.lt P5.out
      have q3 : C1 < C2 := Nat.lt_of_lt_of_le P4.out.lt P8.out
      have q4 : C2 < D := Nat.lt_of_lt_of_le P7.out.lt P11.out
      have q5 : D < wC.heap.size := P10.out.lt
      have q6 : wC.heap.size < RB := Nat.lt_of_lt_of_le P13.out.lt P16.out
      have q7 : RB < M := Nat.lt_of_lt_of_le P15.out.lt P17.out
      have q8 : M < LB := P18.out
      have q9 : LB < wF.heap.size := bLB.lt
      have hap := apart_mk hSF q1 q2 q3 q4 q5 q6 q7 P18.out q9 (Nat.lt_succ_self wF.heap.size) (Nat.lt_succ_self (wF.heap.size + 1))
      obtain ⟨g, hg⟩ : ∃ g : Cfg, g = ⟨wF.heap.size + 2 + 1, wF.heap.size + 2, TB, LB, M, RB, wF.heap.size, wF.heap.size + 1, C1, C2, D, wC.heap.size, w5.heap.size, FB, k, n7, n7, (fat fs q).ks.length, q, k0, dr, x0, x1, y0, y1⟩ := ⟨_, rfl⟩
      have hAp : Apart g := by rw [hg]; exact ⟨hap.1, hap.2, hPr.ring, HID.out.e0, s0, s1, hq, HID.out.sz⟩
      have bC1 := tAG.kept P4.out (by simp)
      have bC2 := tBG.kept P7.out (by simp)
      have bD := tCG.kept P10.out (by simp)
      have hSt : St g wG arr (sat k1 q) (fat fs q).ks lc fc (List.replicate k false) bud 0 := by
        rw [hg]
        exact ⟨bR.lt, ⟨_, _, _, bR, ⟨rfl, .inl ⟨rfl, rfl⟩⟩⟩, ttG.cell (P2.out.cell rfl) (by simp), tFG.cell (bLB.cell rfl) (by simp), tFG.cell (bLB.cell rfl) (by simp), tEG.rowAll (P15.out.row _ rfl), tFG.map P21.out (by simp),
          trG.kept hsl.blk (by simp), hsl.sl q hq, hsf, trG.kept bFB (by simp), ⟨bS1, bC1, bD, HID.out.e5, HID.out.e7, show wF.heap.size ≠ C1 by omega, show wF.heap.size ≠ D by omega, show C1 ≠ D by omega⟩, ⟨bS2, bC2, bD, HID.out.e6, HID.out.e7, show wF.heap.size + 1 ≠ C2 by omega, show wF.heap.size + 1 ≠ D by omega, show C2 ≠ D by omega⟩, tDG.kept P13.out (by simp), by simp⟩
      have hlc : lc.length = n7 := HID.out.e5.symm
      have hfc : fc.length = n7 := HID.out.e6.symm
      have hcall := zzswap_any g hAp arr (sat k1 q) (fat fs q).ks lc fc (List.replicate k false) bud 0 a p wG hSt (by rw [hg]; exact ha7) (by rw [hg]; exact hp) hab (by rw [hg]; exact hla.2) (by rw [hg]; exact hyes) (by rw [hg]; exact (idx_pos hyes).1) (HSM.out.2.2.2.2.2.2 q (by rw [← HID.out.e2]; exact hq)) (by omega)
        (by rw [hg]; exact HF1.out) (by rw [hg]; exact fit_near (by simp) (by omega) hPr.rl hPr.bx0 hPr.bx1 (fun j _ => near_set (by omega) j)) (by rw [hg]; exact HF2.out) (by rw [hg]; exact fit_near (by simp) (by omega) hPr.rf hPr.by0 hPr.by1 (fun j _ => near_set (by omega) j))
      have eR : g.R = wF.heap.size + 2 := by rw [hg]
      have ei : g.i = q := by rw [hg]
      have er : g.ring = k0 := by rw [hg]
      rw [eR, ei, er] at hcall
      go_wp2_with fail
      refine hcall.mono ?_
      rintro e wH ⟨rfl, hSt1, T, hTin, hTH⟩
      clear hcall
      have hth := swap_there hfin hyes (idx_neg hno)
      have hperm := hth.2
      rw [hth.1] at hSt1 hperm
      have hTin' : ∀ x, x < w5.heap.size + 1 → x ≠ w5.heap.size → x ∉ T := fun x hx hne hm => by
        rcases hTin x hm with h | h
        · rw [hg] at h
          simp only [List.mem_cons, List.not_mem_nil, or_false] at h
          omega
        · rw [hg] at h
          simp only at h
          omega
      have hIH : In wH a0 (some ⟨b1, o1, none⟩) a2 a5 a6 a7 n7 c0 k c1 k c2 n7 c5 n7 c6 n7 c7 k0 k1 fs lc fc dr := by
        have hI := HI4.out
        have hr : ∀ {a : Option Addr} {vs : List Value}, Row w5 a vs → Row wH a vs := fun {a vs} hr j v hj => by
          obtain ⟨b, off, e, hlt, hc⟩ := hr j v hj
          have h1 := (HTF.out.trans hG).cell hc (by simp)
          exact ⟨b, off, e, Nat.lt_of_lt_of_le hlt (Nat.le_trans (HTF.out.trans hG).size hTH.size), hTH.cell h1 (hTin' b (by omega) (by omega))⟩
        exact ⟨hI.e0, hI.e1, hI.e2, hI.e5, hI.e6, hI.e7, hr hI.r0, hr hI.r1, ⟨hr hI.r2.1, fun k hk => ⟨hr (hI.r2.2 k hk).1, (hI.r2.2 k hk).2⟩⟩, hr hI.r5, hr hI.r6, hr hI.r7, hI.z0, hI.z5, hI.z6, hI.z7, hI.sz⟩
      have hkT : ∀ T : List Nat, (∀ x, x ∈ T → x ∈ [g.R, g.SB, g.FB, g.S1, g.S2, g.C1, g.C2, g.CH] ∨ g.B ≤ x) → ∀ x, x < TB → x ≠ w5.heap.size → x ≠ FB → x ∉ T := fun T hT x h1 h2 h3 hm => by
        rcases hT x hm with h | h
        · rw [hg] at h
          simp only [List.mem_cons, List.not_mem_nil, or_false] at h
          omega
        · rw [hg] at h
          simp only at h
          omega
      have HkT := hide hkT
      have HSt1 := hide hSt1
      have HIH := hide hIH
      have HTH := hide hTH
      have HTin := hide hTin
      have Hg := hide hg
      have HAp := hide hAp
      have Hsl := hide hsl
      have HtrG := hide trG
      have HTWG := hide (HTF.out.trans hG)
      have HGF := hide hGF
      have HSF := hide hSF
      have HFTB := hide q1
      have HPr := hide hPr
      have HLA := hide hla
      have HAB := hide hab
      have Hperm := hide hperm
      have Hfin := hide hfin
      have Hyes := hide hyes
      have Hno := hide hno
      have Hlc := hide hlc
      have Hfc := hide hfc
      have HeR := hide eR
      have Hei := hide ei
      have Her := hide er
      clear hkT hSt1 hIH hTH hTin hTin' hg hAp hsl trG hGF hSF q1 hPr hla hab hperm hfin hyes hno hlc hfc hth hSt bC1 bC2 bD hap q2 q3 q4 q5 q6 q7 q8 q9 ttG tAG tBG tCG tDG tEG tFG bLB bFB hsf hG bS1 bS2 bR eR ei er
      clear P1 P2 P3 P4 P5 P6 P7 P8 P9 P10 P11 P12 P13 P14 P15 P16 P17 P18 P19 P20 P21 NN6 NN7 NN0 HL5 HL6 HL7 HL0 HXF HYF
      obtain ⟨b0, o0, rfl, hb0, cR⟩ := HIH.out.r0 p _ (sv_get (by rw [← HIH.out.e0]; exact hp))
      obtain ⟨b2, o2, rfl, hb2, c2'⟩ := HIH.out.r2.1 q _ (fv_get (by rw [← HIH.out.e2]; exact hq))
      obtain ⟨b1', o1', e1, hb1', cK⟩ := HIH.out.r1 q _ (sv_get (by rw [← HIH.out.e1]; exact hq))
      simp only [Option.some.injEq, Addr.mk.injEq, and_true] at e1
      obtain ⟨rfl, rfl⟩ := e1
      have gSB : g.SB = w5.heap.size := by rw [Hg.out]
      have gFB : g.FB = FB := by rw [Hg.out]
      have gcF : g.cF = (fat fs q).ks.length := by rw [Hg.out]
      have cL : wH.cell? ⟨w5.heap.size, q * 5 + 1, none⟩ = some (.string (sat k0 p)) := by
        have h := HSt1.out.sb.cell HSt1.out.sl
        rw [gSB, Hei.out] at h; exact h
      have cF : wH.cell? ⟨w5.heap.size, q * 5 + 3, none⟩ = some (.slice (some ⟨FB, 0, none⟩) (ins (wo (fat fs q).ks (sat k0 p)) (sat k1 q)).length (fat fs q).ks.length) := by
        have h := HSt1.out.sb.cell HSt1.out.sf
        rw [gSB, Hei.out, gFB, gcF] at h; exact h
      have rF := (HIH.out.r2.2 q (by rw [← HIH.out.e2]; exact hq)).1
      have rB : Row wH (some ⟨FB, 0, none⟩) (sv (ins (wo (fat fs q).ks (sat k0 p)) (sat k1 q))) := by
        have h := HSt1.out.fb.row _ rfl
        rw [gFB] at h; exact h
      have hks : (fat fs q).ks.length ≤ 1048576 := HSM.out.2.2.2.2.2.2 q (by rw [← HIH.out.e2]; exact hq)
      have hwl : (wo (fat fs q).ks (sat k0 p)).length ≤ (fat fs q).ks.length := List.length_filter_le _ _
      have hil : (ins (wo (fat fs q).ks (sat k0 p)) (sat k1 q)).length = (fat fs q).ks.length := by
        have h1 := (ins_spec (wo_pw (sat k0 p) (inc_pw Hfin.out)) (fun h => idx_neg Hno.out (wo_mem h))).1.length_eq
        have h2 := (wo_perm (x := sat k0 p) (pw_nodup (inc_pw Hfin.out)) (by have h0 := Hyes.out; have h := idx_pos Hyes.out; have h3 := sat_mem (ks := (fat fs q).ks) (j := (idx (fat fs q).ks (sat k0 p)).toNat) (by omega); rw [h.2] at h3; exact h3)).length_eq
        simp at h1 h2; omega
      rw [hil] at cF
      have W25 := hide (fun w' (h : Row w' (fat fs q).a (sv (fat fs q).ks)) => without_any (fat fs q).a (fat fs q).ks.length (fat fs q).c (fat fs q).ks (sat k0 p) w' rfl hks h)
      have W24 := hide (fun w' g1 cc1 (h : Row w' (some ⟨g1, 0, none⟩) (sv (wo (fat fs q).ks (sat k0 p)))) => insert_any (some ⟨g1, 0, none⟩) (wo (fat fs q).ks (sat k0 p)).length cc1 (wo (fat fs q).ks (sat k0 p)) (sat k1 q) w' rfl (by omega) h)
      have W23 := hide (fun w' g2 cc2 (h1 : Row w' (some ⟨FB, 0, none⟩) (sv (ins (wo (fat fs q).ks (sat k0 p)) (sat k1 q)))) (h2 : Row w' (some ⟨g2, 0, none⟩) (sv (ins (wo (fat fs q).ks (sat k0 p)) (sat k1 q)))) =>
        same23_any (some ⟨FB, 0, none⟩) (some ⟨g2, 0, none⟩) (fat fs q).ks.length (fat fs q).ks.length (ins (wo (fat fs q).ks (sat k0 p)) (sat k1 q)).length cc2 (ins (wo (fat fs q).ks (sat k0 p)) (sat k1 q)) w' hil.symm rfl (by omega) h1 h2)
      have RF := hide rF
      have RB' := hide rB
      have HKS := hide hks
      have HILL := hide hil
      clear rF rB hks hil hwl
      generalize sat k0 p = y at cR cL cF W25 W24 W23 RB' HILL
      generalize sat k1 q = x at cK cF W24 W23 RB' HILL
      generalize hks' : (fat fs q).ks = ks at c2' cF RF W25 W24 W23 RB' HILL HKS
      generalize hfa' : (fat fs q).a = fa at c2' RF W25
      generalize hfc' : (fat fs q).c = fcc at c2' W25
      have HKE := hide hks'
      have HFAE := hide hfa'
      clear hks' hfa' hfc'
      generalize hwo : wo ks y = wl at W25 W24 W23 RB' HILL
      generalize hin : ins wl x = L at W24 W23 RB' HILL
      generalize hlk : ks.length = m at c2' cF W25 W23 HILL
      generalize hlw : wl.length = m2 at W24
      generalize hll : L.length = m3 at W23 HILL
      clear hwo hin
      have HLW := hide hlw
      have HLL := hide hll
      clear hlk hlw hll
      go_wp2_with fail
      go_region_held3 (fun w' => w'.cell? ⟨w5.heap.size, q * 5 + 1, none⟩ = some (.string y) ∧ w'.cell? ⟨b0, o0 + p, none⟩ = some (.string y) ∧ w'.cell? ⟨w5.heap.size, q * 5 + 3, none⟩ = some (.slice (some ⟨FB, 0, none⟩) m m) ∧ w'.cell? ⟨b2, o2 + q, none⟩ = some (.slice fa m fcc) ∧ w'.cell? ⟨b1, o1 + q, none⟩ = some (.string x)) (go_keep)
        (first
          | (go_at_call 25; refine (W25.out wH.drew (show Row wH.drew _ _ from RF.out)).mono ?_; rintro e wI ⟨g1, cc1, hg1, rfl, hTI, hrI⟩; rw [HLW.out]; have TI := hide hTI; have RI := hide hrI; have cLI := hTI.cell (show wH.drew.cell? _ = _ from cL) (by simp); have cRI := hTI.cell (show wH.drew.cell? _ = _ from cR) (by simp); have cFI := hTI.cell (show wH.drew.cell? _ = _ from cF) (by simp); have c2I := hTI.cell (show wH.drew.cell? _ = _ from c2') (by simp); have cKI := hTI.cell (show wH.drew.cell? _ = _ from cK) (by simp); clear hTI hrI)
          | (go_at_call 24; refine (W24.out _ _ _ RI.out).mono ?_; rintro e wJ ⟨g2, cc2, hg2, rfl, hTJ, hrJ⟩; rw [HLL.out]; have TJ := hide hTJ; have RJ := hide hrJ; have cLJ := hTJ.cell cLI (by simp); have cRJ := hTJ.cell cRI (by simp); have cFJ := hTJ.cell cFI (by simp); have c2J := hTJ.cell c2I (by simp); have cKJ := hTJ.cell cKI (by simp); clear hTJ hrJ)
          | (go_at_call 23; refine (W23.out _ _ _ (TJ.out.rowAll (TI.out.rowAll (show Row wH.drew _ _ from RB'.out))) RJ.out).mono ?_; rintro e wK ⟨rfl, qq, rfl⟩))
      go_wp2_with fail
      have hT27 : Turns [] wH (wJ.drewN qq) := (((Turns.refl [] wH).drew.trans TI.out).trans TJ.out).drewN qq
      clear cLI cRI cFI c2I cKI cLJ cRJ cFJ c2J cKJ TI TJ RI RJ W25 W24 W23 cL cF cR c2' cK RF RB' HLW HLL HILL
      generalize wJ.drewN qq = wK at hT27
      have hSl := Hsl.out
      have hoth : ∀ (w' : World) (arr' : Array Value), Blk w' w5.heap.size 49 arr' → (∀ j o, j ≠ q → o < 5 → arr'[j * 5 + o]? = arr[j * 5 + o]?) → (∀ x, x < wr.heap.size → x ≠ w5.heap.size → x ≠ FB → w'.heap[x]? = wr.heap[x]?) → ∀ j, j < k → j ≠ q → SlotAt w' w5.heap.size j (sat k1 j) (fat fs j).ks :=
        fun w' arr' hb hn hk j hj hjq => slot_other hSl hb hj hq hjq HGF.out (hn j 1 hjq (by omega)) (hn j 3 hjq (by omega)) hk
      have HOTH := hide hoth
      have hkp1 : ∀ x, x < wr.heap.size → x ≠ w5.heap.size → x ≠ FB → wH.heap[x]? = wr.heap[x]? := fun x h1 h2 h3 =>
        (HTH.out.block x (Nat.lt_of_lt_of_le h1 HtrG.out.size) (HkT.out _ (by have h := HTin.out; rw [← HeR.out] at h; exact h) x (by rw [← HTBr.out]; exact h1) h2 h3)).trans (HtrG.out.block x h1 (by simp))
      have HKP1 := hide hkp1
      have bSB1 : Blk wH w5.heap.size 49 (arr.setIfInBounds (q * 5 + 1) (.string (sat k0 p))) := by
        have h := HSt1.out.sb
        rw [gSB] at h; exact h
      have hIK := HIH.out.turns hT27
      refine (others_any w5.heap.size (some ⟨b1, o1, none⟩) (some ⟨b2, o2, none⟩) k k c1 c2 q k1 fs wK hIK.e1 hIK.e2 s1 HSM.out.2.2.2.2.2.2 hIK.r1 hIK.r2
        (HOTH.out wK _ (hT27.kept bSB1 (by simp)) (fun j o hj ho => arr_other hj ho) (fun x h1 h2 h3 => (hT27.block x (Nat.lt_of_lt_of_le h1 (Nat.le_trans HtrG.out.size HTH.out.size)) (by simp)).trans (hkp1 x h1 h2 h3)))).mono ?_
      rintro e wM ⟨rfl, qm, rfl⟩
      have hTM := hT27.drewN qm
      generalize wK.drewN qm = wM at hTM
      have HTM := hide hTM
      clear hSl hoth hkp1 bSB1 hIK hT27 hTM
      have hIM := HIH.out.turns HTM.out
      have hcall := shifted_any a5 n7 c5 lc p a wM hIM.e5 s0 hp ha7 (fun e => HAB.out e.symm) hIM.z5 hIM.r5 HPr.out.rl
      rw [moved_passed lc HAB.out] at hcall
      clear hIM
      go_wp2_with fail
      refine hcall.mono ?_
      clear hcall
      rintro e wN ⟨gL, hgL, rfl, hTN, bL⟩
      have hIN := (HIH.out.turns HTM.out).turns hTN
      have hcall := shifted_any a6 n7 c6 fc a p wN hIN.e6 s0 ha7 hp HAB.out hIN.z6 hIN.r6 HPr.out.rf
      rw [moved_passed fc (fun e => HAB.out e.symm)] at hcall
      have HTN := hide (HTM.out.trans hTN)
      have BL := hide bL
      have HGL := hide hgL
      clear hIN hTN bL hgL
      go_wp2_with fail
      refine hcall.mono ?_
      clear hcall
      rintro e wO ⟨gF, hgF, rfl, hTO, bF⟩
      have gC1 : g.C1 = C1 := by rw [Hg.out]
      have gC2 : g.C2 = C2 := by rw [Hg.out]
      have hTHO := HTN.out.trans hTO
      have bC1 := hTHO.kept HSt1.out.s1.c (by simp)
      have bC2 := hTHO.kept HSt1.out.s2.c (by simp)
      rw [gC1] at bC1
      rw [gC2] at bC2
      have bL := hTO.kept BL.out (by simp)
      have hl1 : n7 = (passed lc a p).length := by rw [passed_len]; exact Hlc.out.symm
      have hl2 : n7 = (passed fc p a).length := by rw [passed_len]; exact Hfc.out.symm
      have hc1 := same28_any (some ⟨C1, 0, none⟩) (some ⟨gL, 0, none⟩) n7 n7 n7 n7 (passed lc a p) wO hl1 hl1 s0 (bC1.row _ rfl) (bL.row _ rfl)
      have hc2 := fun r => same28_any (some ⟨C2, 0, none⟩) (some ⟨gF, 0, none⟩) n7 n7 n7 n7 (passed fc p a) (wO.drewN r) hl2 hl2 s0 ((bC2.drewN r).row _ rfl) ((bF.drewN r).row _ rfl)
      have HTHO := hide hTHO
      have BL2 := hide bL
      have BF2 := hide bF
      have HC2 := hide hc2
      have HL1 := hide hl1
      have HL2 := hide hl2
      clear hTHO bL bF hc2 bC1 bC2 hTO hgF hl1 hl2 HGL
      go_wp2_with fail
      refine hc1.mono ?_
      clear hc1
      rintro e wP ⟨rfl, r1, rfl⟩
      go_wp2_with fail
      refine (HC2.out r1).mono ?_
      rintro e wQ ⟨rfl, r2, rfl⟩
      have hTQ := (HTHO.out.drewN r1).drewN r2
      have bLQ := (BL2.out.drewN r1).drewN r2
      have bFQ := (BF2.out.drewN r1).drewN r2
      generalize (wO.drewN r1).drewN r2 = wQ at hTQ bLQ bFQ
      have hlo := HX4.out.lt
      have hlo' := HY4.out.lt
      have hTok : ∀ x, x ∈ T → x ∈ [g.R, g.SB, g.FB, g.S1, g.S2, g.C1, g.C2, g.CH] ∨ g.B ≤ x := by have h := HTin.out; rw [← HeR.out] at h; exact h
      have hXQ := hTQ.kept (HTH.out.kept (HTWG.out.kept HX4.out (by simp)) (HkT.out _ hTok KX (by have h1 := HSF.out; have h2 := HFTB.out; omega) (by omega) (by have h1 := HSF.out; omega))) (by simp)
      have hYQ := hTQ.kept (HTH.out.kept (HTWG.out.kept HY4.out (by simp)) (HkT.out _ hTok KY (by have h1 := HSF.out; have h2 := HFTB.out; omega) (by omega) (by have h1 := HSF.out; omega))) (by simp)
      have cx0 : wQ.cell? ⟨KX, 0, none⟩ = some (.int .i64 x0) := hXQ.cell rfl
      have cx1 : wQ.cell? ⟨KX, 1, none⟩ = some (.int .i64 x1) := hXQ.cell rfl
      have cy0 : wQ.cell? ⟨KY, 0, none⟩ = some (.int .i64 y0) := hYQ.cell rfl
      have cy1 : wQ.cell? ⟨KY, 1, none⟩ = some (.int .i64 y1) := hYQ.cell rfl
      have hIQ := HIH.out.turns hTQ
      have hca : a < lc.length := by rw [Hlc.out]; exact ha7
      have hcp : p < lc.length := by rw [Hlc.out]; exact hp
      have hca' : a < fc.length := by rw [Hfc.out]; exact ha7
      have hcp' : p < fc.length := by rw [Hfc.out]; exact hp
      have fit1 : Fit (passed lc a p) x0 x1 := fit_near (by simp [passed]) (by rw [Hlc.out]; exact s0) HPr.out.rl HPr.out.bx0 HPr.out.bx1 (fun j _ => by have := near_passed hca hcp j; omega)
      have fit2 : Fit (passed fc p a) y0 y1 := fit_near (by simp [passed]) (by rw [Hfc.out]; exact s0) HPr.out.rf HPr.out.by0 HPr.out.by1 (fun j _ => by have := near_passed hcp' hca' j; omega)
      have fit1' : Fit ((passed lc a p).set p (iat (passed lc a p) p - 1)) x0 x1 := fit_near (by simp [passed]) (by rw [Hlc.out]; exact s0) HPr.out.rl HPr.out.bx0 HPr.out.bx1 (fun j _ => near_passed_set hca hcp j)
      have fit2' : Fit ((passed fc p a).set a (iat (passed fc p a) a - 1)) y0 y1 := fit_near (by simp [passed]) (by rw [Hfc.out]; exact s0) HPr.out.rf HPr.out.by0 HPr.out.by1 (fun j _ => near_passed_set hcp' hca' j)
      have hc1 := tallies_any (some ⟨gL, 0, none⟩) a7 n7 n7 n7 c7 (passed lc a p) dr x0 x1 wQ HL1.out hIQ.e7 rfl fit1 (bLQ.row _ rfl) hIQ.r7
      have hc2 := tallies_any (some ⟨gF, 0, none⟩) a7 n7 n7 n7 c7 (passed fc p a) dr y0 y1 wQ HL2.out hIQ.e7 rfl fit2 (bFQ.row _ rfl) hIQ.r7
      have hst : St g wQ (arr.setIfInBounds (q * 5 + 1) (.string (sat k0 p))) (sat k0 p) (ins (wo (fat fs q).ks (sat k0 p)) (sat k1 q)) (passed lc a p) (passed fc p a) ((List.replicate k false).set q true) (wrap64 (bud - 1)) 1 := HSt1.out.turns hTQ
      have hc3 : Calls Try.prog 29 #[.pointer (some ⟨wF.heap.size + 2, 0, none⟩), .int .i64 (wrap64 (bud - 1)), .int .i64 q, .int .i64 k, .int .i64 1, .int .i64 (tA (passed lc a p) dr x1 n7), .int .i64 (tB (passed lc a p) dr x0 n7), .int .i64 (tA (passed fc p a) dr y1 n7), .int .i64 (tB (passed fc p a) dr y0 n7)] wQ fun e w' => e = .returned (.bool true) ∧ Turns [] wQ w' := by
        exact stateOf' hst HAp.out (by decide) (by decide) HeR.out Hei.out (by rw [Hg.out]) (by rw [Hg.out]) (by rw [Hg.out]) (by rw [Hg.out]) (by rw [Hg.out]) (by rw [Hg.out]) (by rw [Hg.out]) rfl rfl rfl
      have HC1 := hide hc1
      have HC2' := hide hc2
      have HC3 := hide hc3
      have HTQ := hide hTQ
      have HST := hide hst
      have FIT1 := hide fit1
      have FIT2 := hide fit2
      have FIT1' := hide fit1'
      have FIT2' := hide fit2'
      have HTOK := hide hTok
      clear hc1 hc2 hc3 hTQ hst fit1 fit2 fit1' fit2' hTok hIQ hXQ hYQ bLQ bFQ BL BL2 BF2 HC2
      go_wp2_with fail
      refine HC1.out.mono ?_
      rintro e wq ⟨rfl, hw⟩
      subst hw
      go_wp2_with fail
      refine HC2'.out.mono ?_
      rintro e wq' ⟨rfl, hw⟩
      subst hw
      clear cx0 cx1 cy0 cy1
      go_wp2_with fail
      refine HC3.out.mono ?_
      rintro e wS ⟨rfl, hTS⟩
      have HTS := hide (HTQ.out.trans hTS)
      have HSS := hide (HST.out.turns hTS)
      clear hTS HC1 HC2' HC3 HTQ HST
      have hmem : sat k0 p ∈ (fat fs q).ks := by
        have h0 := Hyes.out
        have h := idx_pos Hyes.out
        have h3 := sat_mem (ks := (fat fs q).ks) (j := (idx (fat fs q).ks (sat k0 p)).toNat) (by omega)
        rw [h.2] at h3; exact h3
      have hback := swap_back Hfin.out hmem Hperm.out
      have hLL : (ins (wo (fat fs q).ks (sat k0 p)) (sat k1 q)).length ≤ 1048576 := by
        have h1 := Hperm.out.length_eq
        have h2 := (wo_perm (x := sat k0 p) (pw_nodup (inc_pw Hfin.out)) hmem).length_eq
        have h3 := HSM.out.2.2.2.2.2.2 q (by rw [← HIH.out.e2]; exact hq)
        simp at h1 h2; omega
      have hcall := zzswap_any g HAp.out _ (sat k0 p) _ (passed lc a p) (passed fc p a) _ (wrap64 (bud - 1)) 1 p a wS HSS.out (by rw [Hg.out]; exact hp) (by rw [Hg.out]; exact ha7) (fun e => HAB.out e.symm) (by rw [Her.out]) (by rw [Her.out, HLA.out.2]; exact hback.1) (by rw [Her.out, HLA.out.2]; exact (idx_pos hback.1).1) hLL (by decide)
        (by rw [Hg.out]; exact FIT1.out) (by rw [Hg.out]; exact FIT1'.out) (by rw [Hg.out]; exact FIT2.out) (by rw [Hg.out]; exact FIT2'.out)
      rw [HeR.out, Hei.out, Her.out, HLA.out.2, hback.2, passed_back hca hcp HAB.out, passed_back hcp' hca' (fun e => HAB.out e.symm), rep_set2, wrap_twice] at hcall
      go_wp2_with fail
      refine hcall.mono ?_
      clear hcall
      rintro e wT ⟨rfl, hSt2, T2, hT2in, hT2⟩
      have hT2ok : ∀ x, x ∈ T2 → x ∈ [g.R, g.SB, g.FB, g.S1, g.S2, g.C1, g.C2, g.CH] ∨ g.B ≤ x := by have h := hT2in; rw [← HeR.out] at h; exact h
      have hlow : ∀ x, x < w5.heap.size → wT.heap[x]? = w5.heap[x]? := fun x hx => by
        have h1 := HSF.out
        have h2 := HFTB.out
        have z1 := HTWG.out.size
        have z2 := HTH.out.size
        have z3 := HTS.out.size
        rw [hT2.block x (by omega) (HkT.out _ hT2ok x (by omega) (by omega) (by omega)), HTS.out.block x (by omega) (by simp), HTH.out.block x (by omega) (HkT.out _ HTOK.out x (by omega) (by omega) (by omega)), HTWG.out.block x hx (by simp)]
      have hszT : w5.heap.size ≤ wT.heap.size := Nat.le_trans HTWG.out.size (Nat.le_trans HTH.out.size (Nat.le_trans HTS.out.size hT2.size))
      have hIT : In wT (some ⟨b0, o0, none⟩) (some ⟨b1, o1, none⟩) (some ⟨b2, o2, none⟩) a5 a6 a7 n7 c0 k c1 k c2 n7 c5 n7 c6 n7 c7 k0 k1 fs lc fc dr := by
        have hI := HI4.out
        have hr : ∀ {a : Option Addr} {vs : List Value}, Row w5 a vs → Row wT a vs := fun {a vs} hr j v hj => by
          obtain ⟨b, off, e, hlt, hc⟩ := hr j v hj
          exact ⟨b, off, e, Nat.lt_of_lt_of_le hlt hszT, (World.cell?_of_block (w := w5) (hlow b hlt)).trans hc⟩
        exact ⟨hI.e0, hI.e1, hI.e2, hI.e5, hI.e6, hI.e7, hr hI.r0, hr hI.r1, ⟨hr hI.r2.1, fun k hk => ⟨hr (hI.r2.2 k hk).1, (hI.r2.2 k hk).2⟩⟩, hr hI.r5, hr hI.r6, hr hI.r7, hI.z0, hI.z5, hI.z6, hI.z7, hI.sz⟩
      have hkp2 : ∀ x, x < wr.heap.size → x ≠ w5.heap.size → x ≠ FB → wT.heap[x]? = wr.heap[x]? := fun x h1 h2 h3 => by
        have z1 := HtrG.out.size
        have z2 := HTH.out.size
        have z3 := HTS.out.size
        rw [hT2.block x (by omega) (HkT.out _ hT2ok x (by rw [← HTBr.out]; exact h1) h2 h3), HTS.out.block x (by omega) (by simp)]
        exact HKP1.out x h1 h2 h3
      have bSB2 : Blk wT w5.heap.size 49 ((arr.setIfInBounds (q * 5 + 1) (.string (sat k0 p))).setIfInBounds (q * 5 + 1) (.string (sat k1 q))) := by
        have h := hSt2.sb
        rw [gSB] at h; exact h
      have cL2 : wT.cell? ⟨w5.heap.size, q * 5 + 1, none⟩ = some (.string (sat k1 q)) := by
        have h := hSt2.sb.cell hSt2.sl
        rw [gSB, Hei.out] at h; exact h
      have cF2 : wT.cell? ⟨w5.heap.size, q * 5 + 3, none⟩ = some (.slice (some ⟨FB, 0, none⟩) (fat fs q).ks.length (fat fs q).ks.length) := by
        have h := hSt2.sb.cell hSt2.sf
        rw [gSB, Hei.out, gFB, gcF] at h; exact h
      have rB2 : Row wT (some ⟨FB, 0, none⟩) (sv (fat fs q).ks) := by
        have h := hSt2.fb.row _ rfl
        rw [gFB] at h; exact h
      obtain ⟨b1', o1', e1, _, cK2⟩ := hIT.r1 q _ (sv_get (by rw [← hIT.e1]; exact hq))
      simp only [Option.some.injEq, Addr.mk.injEq, and_true] at e1
      obtain ⟨rfl, rfl⟩ := e1
      obtain ⟨b2', o2', e2, _, c22⟩ := hIT.r2.1 q _ (fv_get (by rw [← hIT.e2]; exact hq))
      simp only [Option.some.injEq, Addr.mk.injEq, and_true] at e2
      obtain ⟨rfl, rfl⟩ := e2
      have rF2 := (hIT.r2.2 q (by rw [← hIT.e2]; exact hq)).1
      have W23 := hide (fun r => same23_any (some ⟨FB, 0, none⟩) (fat fs q).a (fat fs q).ks.length (fat fs q).ks.length (fat fs q).ks.length (fat fs q).c (fat fs q).ks (wT.drewN r) rfl rfl (HSM.out.2.2.2.2.2.2 q (by rw [← hIT.e2]; exact hq)) (rB2.drewN r) (rF2.drewN r))
      have HIT := hide hIT
      have HST2 := hide hSt2
      have HKP2 := hide hkp2
      have BSB2 := hide bSB2
      have HLOW := hide hlow
      have HSZT := hide hszT
      have HTT2 := hide (show wT.os = w5.os ∧ wT.tape = w5.tape ∧ wT.output = w5.output from ⟨hT2.os.trans (HTS.out.os.trans (HTH.out.os.trans HTWG.out.os)), hT2.tape.trans (HTS.out.tape.trans (HTH.out.tape.trans HTWG.out.tape)), hT2.output.trans (HTS.out.output.trans (HTH.out.output.trans HTWG.out.output))⟩)
      clear hIT hSt2 hkp2 bSB2 hlow hszT hT2ok hT2in hT2 rB2 rF2 hmem hback hLL
      generalize sat k1 q = xq at cL2 cK2
      generalize (fat fs q).ks.length = mq at cF2 c22 W23
      generalize (fat fs q).a = faq at c22 W23
      generalize (fat fs q).c = fcq at c22 W23
      go_wp2_with fail
      go_quiet ((go_at_call 23; exact Calls.quiet_of (W23.out _)))
      go_wp2_with fail
      have hTU := (Turns.refl [] wT).drewN nq
      generalize wT.drewN nq = wU at hTU
      clear cL2 cF2 cK2 c22 W23
      have hIU := HIT.out.turns hTU
      refine (others_any w5.heap.size (some ⟨b1, o1, none⟩) (some ⟨b2, o2, none⟩) k k c1 c2 q k1 fs wU hIU.e1 hIU.e2 s1 HSM.out.2.2.2.2.2.2 hIU.r1 hIU.r2
        (HOTH.out wU _ (hTU.kept BSB2.out (by simp)) (fun j o hj ho => (arr_other hj ho).trans (arr_other hj ho)) (fun x h1 h2 h3 => (hTU.block x (Nat.lt_of_lt_of_le (by have := HKP2.out x h1 h2 h3; exact (block_lt_of_heap this h1)) (Nat.le_refl _)) (by simp)).trans (HKP2.out x h1 h2 h3)))).mono ?_
      rintro e wV ⟨rfl, qv, rfl⟩
      have hTV := hTU.drewN qv
      generalize wU.drewN qv = wV at hTV
      have hIV := HIT.out.turns hTV
      have bC1 := hTV.kept HST2.out.s1.c (by simp)
      have bC2 := hTV.kept HST2.out.s2.c (by simp)
      rw [gC1] at bC1
      rw [gC2] at bC2
      have hc1 := same28_any (some ⟨C1, 0, none⟩) a5 n7 n7 n7 c5 lc wV hIV.e5 hIV.e5 s0 (bC1.row _ rfl) hIV.r5
      have HC2 := hide (fun r => same28_any (some ⟨C2, 0, none⟩) a6 n7 n7 n7 c6 fc (wV.drewN r) hIV.e6 hIV.e6 s0 ((bC2.drewN r).row _ rfl) (hIV.r6.drewN r))
      have HTV := hide hTV
      clear hTV hTU hIU hIV bC1 bC2
      go_wp2_with fail
      refine hc1.mono ?_
      clear hc1
      rintro e wV1 ⟨rfl, r3, rfl⟩
      go_wp2_with fail
      refine (HC2.out r3).mono ?_
      rintro e wV2 ⟨rfl, r4, rfl⟩
      have hTW := (HTV.out.drewN r3).drewN r4
      generalize (wV.drewN r3).drewN r4 = wW at hTW
      have hc3 : Calls Try.prog 29 #[.pointer (some ⟨wF.heap.size + 2, 0, none⟩), .int .i64 (wrap64 (bud - 2)), .int .i64 q, .int .i64 k, .int .i64 2, .int .i64 (tA lc dr x1 n7), .int .i64 (tB lc dr x0 n7), .int .i64 (tA fc dr y1 n7), .int .i64 (tB fc dr y0 n7)] wW fun e w' => e = .returned (.bool true) ∧ Turns [] wW w' :=
        stateOf' (HST2.out.turns hTW) HAp.out (by decide) (by decide) HeR.out Hei.out (by rw [Hg.out]) (by rw [Hg.out]) (by rw [Hg.out]) (by rw [Hg.out]) (by rw [Hg.out]) (by rw [Hg.out]) (by rw [Hg.out]) rfl rfl rfl
      have HTW := hide hTW
      clear hTW
      go_wp2_with fail
      refine hc3.mono ?_
      clear hc3
      rintro e wZ ⟨rfl, hTZ⟩
      have HTZ := hide (HTW.out.trans hTZ)
      clear hTZ
      go_wp2_with fail
      go_ret
      have f1 := HTZ.out
      have f2 := HT4.out
      have f3 := HTT2.out
      exact ⟨rfl, f1.os.trans (f3.1.trans f2.os), f1.tape.trans (f3.2.1.trans f2.tape), f1.output.trans (f3.2.2.trans f2.output), Nat.le_trans f2.size (Nat.le_trans HSZT.out f1.size), fun x hx _ =>
        (f1.block x (Nat.lt_of_lt_of_le hx (Nat.le_trans f2.size HSZT.out)) (by simp)).trans ((HLOW.out x (Nat.lt_of_lt_of_le hx f2.size)).trans (f2.block x hx (by simp)))⟩

end Go.Proofs.Qxb6619598a
