import Derived.Test.Qxb6618694aInsLaw
namespace Go.Proofs.Qxb6618694a
open Go.RowKit Go.WideShapes

theorem strRow_none (w : World) (a : Option Addr) : StrRow w a [] := fun _ hj => absurd hj (Nat.not_lt_zero _)

set_option maxRecDepth 100000 in
set_option maxHeartbeats 1000000 in
theorem ins_nil (key ins : ByteArray) (z : Int) (w : World) :
    Calls Try.prog 4 #[.slice none 0 0, .string key, .int .i64 z, .string ins] w fun e w' => e = .returned (.bool true) ∧ Below w.heap.size w w' := by
  obtain ⟨i0, hi, hz0, hz1, hz2⟩ := info_parts Try.info9
  have hb16 : i0.bytes * 1 ≤ 281474976710656 := by rw [hz2]; omega
  have hB := bytes4_small none 0 0 [] key ins z w rfl (by omega) (strRow_none _ _)
  go_enter Try.func4, Try.ntmps4
  go_wp2_with fail
  refine hB.mono ?_
  rintro e w' ⟨⟨r, rfl⟩, hw'⟩
  subst hw'
  clear hB
  cases r with
  | false =>
    go_wp2_with fail
    go_ret
    exact ⟨rfl, Below.refl _ _⟩
  | true =>
    go_wp2_with fail
    · go_ret
      exact ⟨rfl, Below.refl _ _⟩
    refine wp_loop_rounds 1 ?_
    rw [rounds_succ]
    by_cases hz : z < 0
    · go_wp2_with fail
      go_ret
      exact ⟨rfl, Below.refl _ _⟩
    by_cases hzj : (0 : Int) < z
    · have hz' : 0 ≤ z := by omega
      clear hz
      go_wp2_with fail
      go_ret
      exact ⟨rfl, Below.refl _ _⟩
    obtain rfl : z = 0 := by omega
    clear hz hzj
    go_wp2_with (at_make; refine wpList_make_full _ rfl _ _ 22 rfl w'.heap.size 9 i0 _ 1 Try.underlying22 hi hz0 hz1 _ _ _ _ 1 rfl rfl (by omega) (by omega) hb16 (by unfold maxLen; omega) (Nat.le_refl _) ?_; clear hz0 hz1 hz2 hb16 hi; intro w1 ho hg; have HB := hide ((Below.refl w'.heap.size w').grown hg (Nat.le_refl _) (by simp)); have HO := hide (rowIs_made ho); clear ho hg)
    refine wp_loop_rounds 1 ?_
    rw [rounds_succ]
    obtain ⟨x, hx, hfx⟩ := HO.out.cell (i := 0) (by simp)
    go_wp2_with fail
    have HO2 := hide (HO.out.set 0 ins)
    have HB2 := hide (HB.out.setCell (p := ⟨w'.heap.size, 0, none⟩) (Nat.le_refl _) (.string ins))
    clear HO HB hx hfx
    generalize w1.setCell ⟨w'.heap.size, 0, none⟩ (.string ins) = w2 at *
    refine wp_loop_rounds 1 ?_
    rw [rounds_succ]
    go_wp2_with fail
    refine (newSpan _ 0 _ [] _ rfl (Nat.zero_le _) (strRow_none _ _)).mono ?_
    rintro e w3 ⟨sb, tb, rfl, hb3, hsb, hs, ht⟩
    have hcall := zzTagIndex_any sb tb 0 _ [] key w3 hsb hs rfl (Nat.zero_le _) ht
    clear hsb hs ht
    go_wp2_with fail
    refine hcall.mono ?_
    rintro e w4 ⟨rfl, hb4⟩
    have HS4 := hide ((HO2.out.strRow.below hb3).below hb4)
    have HB4 := hide (HB2.out.trans ((hb3.trans (hb4.mono hb3.size)).mono HB2.out.size))
    clear hb4 hb3 hcall HO2 HB2
    rw [show idx [] key = -1 from rfl]
    go_wp2_with fail
    refine (newSpan _ 1 _ [ins] _ rfl (by omega) HS4.out).mono ?_
    rintro e w5 ⟨sb, tb, rfl, hb5, hsb, hs, ht⟩
    have hcall := zzTagIndex_any sb tb 1 _ [ins] key w5 hsb hs rfl (by omega) ht
    clear hsb hs ht
    go_wp2_with fail
    refine hcall.mono ?_
    rintro e w6 ⟨rfl, hb6⟩
    have HB6 := hide (HB4.out.trans ((hb5.trans (hb6.mono hb5.size)).mono HB4.out.size))
    clear hb5 hb6 hcall HB4 HS4
    have hone : idx [ins] key = if ins.toList == key.toList then 0 else -1 := rfl
    generalize idx [ins] key = af at hone
    cases hq : (ins.toList == key.toList) with
    | true =>
      rw [if_pos hq] at hone
      have haf : (af == 0) = true := beq_iff_eq.2 hone
      clear hone
      go_wp2_with fail
      go_ret
      exact ⟨rfl, HB6.out⟩
    | false =>
      rw [if_neg (by simp [hq])] at hone
      have haf : (af == -1) = true := beq_iff_eq.2 hone
      clear hone
      go_wp2_with fail
      go_ret
      exact ⟨rfl, HB6.out⟩

end Go.Proofs.Qxb6618694a
