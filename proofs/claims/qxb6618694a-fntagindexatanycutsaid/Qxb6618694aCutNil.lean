import Derived.Test.Qxb6618694aLaw
namespace Go.Proofs.Qxb6618694a
open Go.RowKit Go.WideShapes

theorem strRow_nil (w : World) (a : Option Addr) : StrRow w a [] := fun _ hj => absurd hj (Nat.not_lt_zero _)

set_option maxHeartbeats 1000000 in
theorem cut_nil (key : ByteArray) (z : Int) (w : World) :
    Calls Try.prog 3 #[.slice none 0 0, .string key, .int .i64 z] w fun e w' => e = .returned (.bool true) ∧ Below w.heap.size w w' := by
  have hB := bytes3_small none 0 0 [] key z w rfl (by omega) (strRow_nil _ _)
  go_enter Try.func3, Try.ntmps3
  go_wp2_with fail
  refine hB.mono ?_
  rintro e w' ⟨⟨r, rfl⟩, hw'⟩
  subst hw'
  clear hB
  cases r with
  | false =>
    go_wp2_with fail
    go_ret
    exact ⟨rfl, Below.refl _ _⟩
  | true =>
    go_wp2_with fail
    · go_ret
      exact ⟨rfl, Below.refl _ _⟩
    refine wp_loop_rounds 1 ?_
    rw [rounds_succ]
    by_cases hz : z < 0
    · go_wp2_with fail
      go_ret
      exact ⟨rfl, Below.refl _ _⟩
    by_cases hzj : (0 : Int) < z
    · have hz' : 0 ≤ z := by omega
      clear hz
      go_wp2_with fail
      go_ret
      exact ⟨rfl, Below.refl _ _⟩
    obtain rfl : z = 0 := by omega
    clear hz hzj
    go_wp2_with fail
    refine (newSpan _ 0 _ [] _ rfl (Nat.zero_le _) (strRow_nil _ _)).mono ?_
    rintro e w3 ⟨sb, tb, rfl, hb3, hsb, hs, ht⟩
    have hcall := zzTagIndex_any sb tb 0 _ [] key w3 hsb hs rfl (Nat.zero_le _) ht
    clear hsb hs ht
    go_wp2_with fail
    refine hcall.mono ?_
    rintro e w4 ⟨rfl, hb4⟩
    have HB4 := hide (hb3.trans (hb4.mono hb3.size))
    clear hb4 hb3 hcall
    go_wp2_with fail
    refine (newSpan _ 0 _ [] _ rfl (Nat.zero_le _) (strRow_nil _ _)).mono ?_
    rintro e w5 ⟨sb, tb, rfl, hb5, hsb, hs, ht⟩
    have hcall := zzTagIndex_any sb tb 0 _ [] key w5 hsb hs rfl (Nat.zero_le _) ht
    clear hsb hs ht
    go_wp2_with fail
    refine hcall.mono ?_
    rintro e w6 ⟨rfl, hb6⟩
    have HB6 := hide (HB4.out.trans ((hb5.trans (hb6.mono hb5.size)).mono HB4.out.size))
    clear hb5 hb6 hcall HB4
    go_wp2_with fail
    refine (newSpan _ 0 _ [] _ rfl (Nat.zero_le _) (strRow_nil _ _)).mono ?_
    rintro e w7 ⟨sb, tb, rfl, hb7, hsb, hs, ht⟩
    have hcall := zzTagIndex_any sb tb 0 _ [] key w7 hsb hs rfl (Nat.zero_le _) ht
    clear hsb hs ht
    go_wp2_with fail
    refine hcall.mono ?_
    rintro e w8 ⟨rfl, hb8⟩
    have HB8 := hide (HB6.out.trans ((hb7.trans (hb8.mono hb7.size)).mono HB6.out.size))
    clear hb7 hb8 hcall HB6
    rw [show idx [] key = -1 from rfl]
    go_wp2_with fail
    refine wp_loop_rounds 1 ?_
    rw [rounds_succ]
    go_wp2_with fail
    go_ret
    exact ⟨rfl, HB8.out⟩

end Go.Proofs.Qxb6618694a
