import Derived.Test.Qxb6617447aBytes
namespace Go.Proofs.Qxb6617447a
open Go.RowKit

theorem cutAt_mono (base : ByteArray) (j k : Nat) (h : j ≤ k) : cutAt base j ≤ cutAt base k := by
  induction k with
  | zero =>
    obtain rfl : j = 0 := by omega
    exact Nat.le_refl _
  | succ k ih =>
    by_cases e : j = k + 1
    · subst e; exact Nat.le_refl _
    · have h1 := ih (by omega)
      have h2 := cutAt_le base j
      show cutAt base j ≤ cutAt base (k + 1)
      rw [cutAt]
      split
      · split
        · omega
        · exact h1
      · omega

theorem kept_mono (base random : ByteArray) (a b : Int) (h : a ≤ b) : kept base random a ≤ kept base random b := by
  unfold kept
  by_cases h1 : (b - ((random.size : Int) + 6)).toNat < base.size
  · rw [if_pos h1, if_pos (by omega)]
    exact cutAt_mono base _ _ (by omega)
  · rw [if_neg h1]
    exact kept_le base random a

theorem kept_whole (base random : ByteArray) (b : Int) (h : b ≥ (base.size : Int) + ((random.size : Int) + 6)) : kept base random b = base.size := by
  unfold kept
  rw [if_neg (by omega)]

set_option maxHeartbeats 2000000 in
theorem grow_walk (base random : ByteArray) (a b : Int) (ha2 : a ≤ 9223372036854775807) (hb2 : b ≤ 9223372036854775807) (w : World) :
    Calls Try.prog 5 #[.string base, .string random, .int .i64 a, .int .i64 b] w fun e w' => e = .returned (.bool true) ∧ Grown w w' := by
  have hB := bytes5 base random a b w
  by_cases hab : b < a
  · go_enter Try.func5, Try.ntmps5
    go_wp2_with fail
    refine hB.mono ?_
    rintro e w' ⟨⟨r, rfl⟩, hw'⟩
    subst hw'
    clear hB
    cases r with
    | false =>
      go_wp2_with fail
      go_ret
      exact ⟨rfl, Grown.refl _⟩
    | true =>
      go_wp2_with fail
      all_goals first
        | (go_ret; exact ⟨rfl, Grown.refl _⟩)
        | skip
      have g1 : (base.size : Int) ≤ 262144 := by assumption
      have g3 : (random.size : Int) ≤ 262144 := by assumption
      have g4 : -1073741824 ≤ a := by assumption
      have g5 : -1073741824 ≤ b := by assumption
      refine (zzTemporary_any base random b (by omega) (by omega) (by omega) (by omega) _).mono ?_
      rintro e w1 ⟨rfl, hw⟩
      subst hw
      have HTB := hide (zzTemporary_any base random a (by omega) (by omega) (by omega) (by omega) w1)
      have HSA := hide (fun W => split_any base random (kept base random b) (by omega) (by omega) (kept_le _ _ _) W)
      have HSB := hide (fun W => split_any base random (kept base random a) (by omega) (by omega) (kept_le _ _ _) W)
      have HZA := hide (show ((nm (base.extract 0 (kept base random b)) random).size : Int) = (kept base random b : Int) + (random.size : Int) + 6 by rw [nm_size, extract_size _ _ (kept_le _ _ _)]; omega)
      have HRA := hide (kept_room base random b)
      have HWB := hide (kept_whole base random a)
      have hmono : (kept base random b : Int) ≤ (kept base random a : Int) := by have := kept_mono base random b a (by omega); omega
      generalize hkb : kept base random a = kb at *
      generalize hka : kept base random b = ka at *
      have HEB := hide (show (a ≥ (base.size : Int) + ((random.size : Int) + 6)) → nm (base.extract 0 kb) random = nm base random from fun h => by rw [HWB.out h, extract_all])
      generalize hob : nm (base.extract 0 kb) random = outB at *
      generalize hoa : nm (base.extract 0 ka) random = outA at *
      clear hob hoa hka hkb HWB
      go_wp2_with fail
      refine HTB.out.mono ?_
      rintro e w2 ⟨rfl, hw⟩
      subst hw
      go_wp2_with fail
      refine (HSA.out _).mono ?_
      rintro e w3 ⟨rfl, hg3⟩
      have HG3 := hide (show Grown w2 w3 by rw [hg3]; exact Grown.drew (Grown.refl _))
      clear hg3
      go_wp2_with fail
      refine (HSB.out _).mono ?_
      rintro e w4 ⟨rfl, hg4⟩
      have HG4 := hide (show Grown w2 w4 by rw [hg4]; exact Grown.drew HG3.out)
      clear hg4 HG3 HSA HSB HTB
      by_cases hn : (random.size : Int) + 6 ≤ b
      · have hsz : (outA.size : Int) ≤ b := by have := HRA.out hn; have := HZA.out; omega
        by_cases hw : (base.size : Int) + ((random.size : Int) + 6) ≤ a
        · have heq : (outB.toList == (({ data := #[46] } : ByteArray) ++ base ++ { data := #[46] } ++ random ++ { data := #[46, 116, 109, 112] }).toList) = true := by rw [HEB.out hw]; simp [nm]
          go_wp2_with fail
          go_ret
          exact ⟨rfl, HG4.out⟩
        · go_wp2_with fail
          go_ret
          exact ⟨rfl, HG4.out⟩
      · by_cases hw : (base.size : Int) + ((random.size : Int) + 6) ≤ a
        · have heq : (outB.toList == (({ data := #[46] } : ByteArray) ++ base ++ { data := #[46] } ++ random ++ { data := #[46, 116, 109, 112] }).toList) = true := by rw [HEB.out hw]; simp [nm]
          go_wp2_with fail
          go_ret
          exact ⟨rfl, HG4.out⟩
        · go_wp2_with fail
          go_ret
          exact ⟨rfl, HG4.out⟩
  · go_enter Try.func5, Try.ntmps5
    go_wp2_with fail
    refine hB.mono ?_
    rintro e w' ⟨⟨r, rfl⟩, hw'⟩
    subst hw'
    clear hB
    cases r with
    | false =>
      go_wp2_with fail
      go_ret
      exact ⟨rfl, Grown.refl _⟩
    | true =>
      go_wp2_with fail
      all_goals first
        | (go_ret; exact ⟨rfl, Grown.refl _⟩)
        | skip
      have g1 : (base.size : Int) ≤ 262144 := by assumption
      have g3 : (random.size : Int) ≤ 262144 := by assumption
      have g4 : -1073741824 ≤ a := by assumption
      have g5 : -1073741824 ≤ b := by assumption
      refine (zzTemporary_any base random a (by omega) (by omega) (by omega) (by omega) _).mono ?_
      rintro e w1 ⟨rfl, hw⟩
      subst hw
      have HTB := hide (zzTemporary_any base random b (by omega) (by omega) (by omega) (by omega) w1)
      have HSA := hide (fun W => split_any base random (kept base random a) (by omega) (by omega) (kept_le _ _ _) W)
      have HSB := hide (fun W => split_any base random (kept base random b) (by omega) (by omega) (kept_le _ _ _) W)
      have HZA := hide (show ((nm (base.extract 0 (kept base random a)) random).size : Int) = (kept base random a : Int) + (random.size : Int) + 6 by rw [nm_size, extract_size _ _ (kept_le _ _ _)]; omega)
      have HRA := hide (kept_room base random a)
      have HWB := hide (kept_whole base random b)
      have hmono : (kept base random a : Int) ≤ (kept base random b : Int) := by have := kept_mono base random a b (by omega); omega
      generalize hkb : kept base random b = kb at *
      generalize hka : kept base random a = ka at *
      have HEB := hide (show (b ≥ (base.size : Int) + ((random.size : Int) + 6)) → nm (base.extract 0 kb) random = nm base random from fun h => by rw [HWB.out h, extract_all])
      generalize hob : nm (base.extract 0 kb) random = outB at *
      generalize hoa : nm (base.extract 0 ka) random = outA at *
      clear hob hoa hka hkb HWB
      go_wp2_with fail
      refine HTB.out.mono ?_
      rintro e w2 ⟨rfl, hw⟩
      subst hw
      go_wp2_with fail
      refine (HSA.out _).mono ?_
      rintro e w3 ⟨rfl, hg3⟩
      have HG3 := hide (show Grown w2 w3 by rw [hg3]; exact Grown.drew (Grown.refl _))
      clear hg3
      go_wp2_with fail
      refine (HSB.out _).mono ?_
      rintro e w4 ⟨rfl, hg4⟩
      have HG4 := hide (show Grown w2 w4 by rw [hg4]; exact Grown.drew HG3.out)
      clear hg4 HG3 HSA HSB HTB
      by_cases hn : (random.size : Int) + 6 ≤ a
      · have hsz : (outA.size : Int) ≤ a := by have := HRA.out hn; have := HZA.out; omega
        by_cases hw : (base.size : Int) + ((random.size : Int) + 6) ≤ b
        · have heq : (outB.toList == (({ data := #[46] } : ByteArray) ++ base ++ { data := #[46] } ++ random ++ { data := #[46, 116, 109, 112] }).toList) = true := by rw [HEB.out hw]; simp [nm]
          go_wp2_with fail
          go_ret
          exact ⟨rfl, HG4.out⟩
        · go_wp2_with fail
          go_ret
          exact ⟨rfl, HG4.out⟩
      · by_cases hw : (base.size : Int) + ((random.size : Int) + 6) ≤ b
        · have heq : (outB.toList == (({ data := #[46] } : ByteArray) ++ base ++ { data := #[46] } ++ random ++ { data := #[46, 116, 109, 112] }).toList) = true := by rw [HEB.out hw]; simp [nm]
          go_wp2_with fail
          go_ret
          exact ⟨rfl, HG4.out⟩
        · go_wp2_with fail
          go_ret
          exact ⟨rfl, HG4.out⟩
end Go.Proofs.Qxb6617447a
