import Derived.Test.Qxb6617447aBytes
namespace Go.Proofs.Qxb6617447a
open Go.RowKit

theorem cutAt_rs (base : ByteArray) (m : Nat) (hm : m < base.size) (h0 : 0 < cutAt base m) : ∃ h : cutAt base m < base.size, rs (base[cutAt base m]'h) = true := by
  have hlt : cutAt base m < base.size := Nat.lt_of_le_of_lt (cutAt_le base m) hm
  refine ⟨hlt, ?_⟩
  induction m with
  | zero => exact absurd h0 (Nat.lt_irrefl 0)
  | succ m ih =>
    have e : cutAt base (m + 1) = if rs (base[m + 1]'hm) then m + 1 else cutAt base m := by rw [cutAt, dif_pos hm]
    cases hq : rs (base[m + 1]'hm) with
    | true =>
      rw [hq, if_pos rfl] at e
      simp only [e]
      exact hq
    | false =>
      rw [hq, if_neg (by simp)] at e
      simp only [e] at h0 hlt ⊢
      exact ih (by omega) h0 hlt

theorem cutAt_gap (base : ByteArray) (m j : Nat) (hm : m < base.size) (h1 : cutAt base m < j) (h2 : j ≤ m) (hj : j < base.size) : rs (base[j]'hj) = false := by
  induction m with
  | zero => omega
  | succ m ih =>
    have e : cutAt base (m + 1) = if rs (base[m + 1]'hm) then m + 1 else cutAt base m := by rw [cutAt, dif_pos hm]
    cases hq : rs (base[m + 1]'hm) with
    | true => rw [hq, if_pos rfl] at e; omega
    | false =>
      rw [hq, if_neg (by simp)] at e
      by_cases ej : j = m + 1
      · subst ej; exact hq
      · exact ih (by omega) (by omega) (by omega)

/-- What is needed of the length that is kept, where the whole does not fit. -/
theorem kept_facts (base random : ByteArray) (limit : Int) (m : Nat) (hm : m = (limit - ((random.size : Int) + 6)).toNat) (h : limit < (base.size : Int) + ((random.size : Int) + 6)) :
    kept base random limit ≤ m ∧ (0 < kept base random limit → ∃ h : kept base random limit < base.size, rs (base[kept base random limit]'h) = true) ∧
    (∀ j, kept base random limit < j → j ≤ m → ∃ hj : j < base.size, rs (base[j]'hj) = false) := by
  by_cases h0 : m < base.size
  · have e : kept base random limit = cutAt base m := by unfold kept; rw [← hm, if_pos h0]
    rw [e]
    refine ⟨cutAt_le _ _, ?_, fun j h1 h2 => ⟨by omega, cutAt_gap base m j h0 h1 h2 (by omega)⟩⟩
    intro hp
    exact cutAt_rs base m h0 hp
  · have hz : m = 0 := by omega
    have hs : base.size = 0 := by omega
    have e : kept base random limit = 0 := by have := kept_le base random limit; omega
    exact ⟨by omega, fun hp => absurd hp (by omega), fun j h1 h2 => absurd h2 (by omega)⟩

theorem kept_of_le (b random : ByteArray) (limit : Int) (h : b.size ≤ (limit - ((random.size : Int) + 6)).toNat) : kept b random limit = b.size := by
  unfold kept
  rw [if_neg (by omega)]

/-- Naming what was kept again keeps all of it. -/
theorem kept_again (base random : ByteArray) (limit : Int) : kept (base.extract 0 (kept base random limit)) random limit = kept base random limit := by
  have hs := extract_size base (kept base random limit) (kept_le _ _ _)
  by_cases h : (limit - ((random.size : Int) + 6)).toNat < base.size
  · have e : kept base random limit ≤ (limit - ((random.size : Int) + 6)).toNat := by
      unfold kept; rw [if_pos h]; exact cutAt_le _ _
    rw [kept_of_le _ random limit (by omega), hs]
  · have e : kept base random limit = base.size := by unfold kept; rw [if_neg h]
    rw [e, extract_all, e]

set_option maxHeartbeats 2000000 in
theorem keep_walk (base random : ByteArray) (limit : Int) (hl2 : limit ≤ 9223372036854775807) (w : World) :
    Calls Try.prog 3 #[.string base, .string random, .int .i64 limit] w fun e w' => e = .returned (.bool true) ∧ Grown w w' := by
  have hB := bytes3 base random limit w
  go_enter Try.func3, Try.ntmps3
  go_wp2_with fail
  refine hB.mono ?_
  rintro e w' ⟨⟨r, rfl⟩, hw'⟩
  subst hw'
  clear hB
  cases r with
  | false =>
    go_wp2_with fail
    go_ret
    exact ⟨rfl, Grown.refl _⟩
  | true =>
    go_wp2_with fail
    all_goals first
      | (go_ret; exact ⟨rfl, Grown.refl _⟩)
      | skip
    have g1 : (base.size : Int) ≤ 262144 := by assumption
    have g3 : (random.size : Int) ≤ 262144 := by assumption
    have g4 : -1073741824 ≤ limit := by assumption
    refine (zzTemporary_any base random limit (by omega) (by omega) g4 hl2 _).mono ?_
    rintro e w1 ⟨rfl, hw⟩
    subst hw
    have HS := hide (split_any base random (kept base random limit) (by omega) (by omega) (kept_le _ _ _) w1)
    have HT := hide (show ∀ W, Calls Try.prog 7 #[.string (base.extract 0 (kept base random limit)), .string random, .int .i64 limit] W fun e w' => e = .returned (.string (nm (base.extract 0 (kept base random limit)) random)) ∧ w' = W from fun W => by
      have h := zzTemporary_any (base.extract 0 (kept base random limit)) random limit (by rw [extract_size _ _ (kept_le _ _ _)]; have := kept_le base random limit; omega) (by omega) g4 hl2 W
      rw [kept_again] at h
      have e : (base.extract 0 (kept base random limit)).extract 0 (kept base random limit) = base.extract 0 (kept base random limit) := by
        have := extract_all (base.extract 0 (kept base random limit))
        rw [extract_size _ _ (kept_le _ _ _)] at this
        exact this
      rw [e] at h
      exact h)
    have hkb : (kept base random limit : Int) ≤ (base.size : Int) := by have := kept_le base random limit; omega
    have HF := hide (fun m h1 h2 => kept_facts base random limit m h1 h2)
    have HWH := hide (show (base.size : Int) + ((random.size : Int) + 6) ≤ limit → kept base random limit = base.size from fun h => by unfold kept; rw [if_neg (by omega)])
    generalize hkk : kept base random limit = k at *
    generalize hout : nm (base.extract 0 k) random = out at *
    clear hout hkk
    go_wp2_with fail
    refine HS.out.mono ?_
    rintro e w2 ⟨rfl, hg⟩
    have HG := hide (show Grown w1 w2 by rw [hg]; exact Grown.drew (Grown.refl _))
    clear hg HS
    by_cases hwh : (base.size : Int) + ((random.size : Int) + 6) ≤ limit
    · have hke : ((k : Int) != (base.size : Int)) = false := by rw [HWH.out hwh]; simp
      go_wp2_with fail
      refine (HT.out _).mono ?_
      rintro e w3 ⟨rfl, hw⟩
      subst hw
      go_wp2_with fail
      go_ret
      exact ⟨rfl, HG.out⟩
    · have hnf : limit < (base.size : Int) + ((random.size : Int) + 6) := by omega
      obtain ⟨m, hm⟩ : ∃ m, m = (limit - ((random.size : Int) + 6)).toNat := ⟨_, rfl⟩
      obtain ⟨f1, f2, f3⟩ := HF.out m hm hnf
      have F2 := hide f2
      have F3 := hide f3
      have hkm : (k : Int) ≤ (m : Int) := by omega
      have hm1 : (m : Int) ≤ 9223372036854775000 := by omega
      clear HF f1 f2 f3 HWH
      by_cases hneg : limit - ((random.size : Int) + 6) < 0
      · have hkz : (k : Int) ≤ 0 := by omega
        clear hm hkm F2 F3 hm1
        go_wp2_with fail
        refine wp_loop_rounds 1 ?_
        rw [rounds_succ]
        go_wp2_with fail
        refine (HT.out _).mono ?_
        rintro e w3 ⟨rfl, hw⟩
        subst hw
        go_wp2_with fail
        go_ret
        exact ⟨rfl, HG.out⟩
      · have hlm : limit - ((random.size : Int) + 6) = (m : Int) := by omega
        clear hm
        have hround : (0 : Int) < (k : Int) → ∃ h : k < base.size, rs (base[k]'h) = true := fun h => F2.out (by omega)
        have HRD := hide hround
        clear hround
        by_cases hk0 : (0 : Int) < (k : Int)
        · obtain ⟨hks, hkr⟩ := HRD.out hk0
          have hksz : (k : Int) < (base.size : Int) := by omega
          go_wp2_with (go_at_call 9; refine (zzRuneStart_any _ _).mono ?_; rintro e w' ⟨rfl, rfl⟩)
          clear hlm
          go_loop [6, 12] (fun _ s12 => ∃ j : Nat, k + 1 ≤ j ∧ j ≤ m + 1 ∧ s12 = .int .i64 j) (fun _ s12 => m + 1 - (intOf s12).toNat)
          case atStart => exact ⟨k + 1, Nat.le_refl _, by omega, by go_num⟩
          case round =>
            obtain ⟨j, hj1, hj2, rfl⟩ := hrel
            by_cases hjm : j ≤ m
            · obtain ⟨hjs, hjr⟩ := F3.out j (by omega) hjm
              have hjz : (j : Int) ≤ (m : Int) := by omega
              have hjb : (j : Int) < (base.size : Int) := by omega
              have hje : ((j : Int) == (base.size : Int)) = false := beq_eq_false_iff_ne.2 (by omega)
              go_wp2_with (go_at_call 9; refine (zzRuneStart_any _ _).mono ?_; rintro e w' ⟨rfl, rfl⟩)
              go_round
              case rel => exact ⟨j + 1, by omega, by omega, by go_num⟩
              case measure => simp [intOf]; omega
            · have hjz : (m : Int) < (j : Int) := by omega
              go_wp2_with fail
              refine (HT.out _).mono ?_
              rintro e w3 ⟨rfl, hw⟩
              subst hw
              go_wp2_with fail
              go_ret
              exact ⟨rfl, HG.out⟩
        · go_wp2_with fail
          clear hlm
          go_loop [6, 12] (fun _ s12 => ∃ j : Nat, k + 1 ≤ j ∧ j ≤ m + 1 ∧ s12 = .int .i64 j) (fun _ s12 => m + 1 - (intOf s12).toNat)
          case atStart => exact ⟨k + 1, Nat.le_refl _, by omega, by go_num⟩
          case round =>
            obtain ⟨j, hj1, hj2, rfl⟩ := hrel
            by_cases hjm : j ≤ m
            · obtain ⟨hjs, hjr⟩ := F3.out j (by omega) hjm
              have hjz : (j : Int) ≤ (m : Int) := by omega
              have hjb : (j : Int) < (base.size : Int) := by omega
              have hje : ((j : Int) == (base.size : Int)) = false := beq_eq_false_iff_ne.2 (by omega)
              go_wp2_with (go_at_call 9; refine (zzRuneStart_any _ _).mono ?_; rintro e w' ⟨rfl, rfl⟩)
              go_round
              case rel => exact ⟨j + 1, by omega, by omega, by go_num⟩
              case measure => simp [intOf]; omega
            · have hjz : (m : Int) < (j : Int) := by omega
              go_wp2_with fail
              refine (HT.out _).mono ?_
              rintro e w3 ⟨rfl, hw⟩
              subst hw
              go_wp2_with fail
              go_ret
              exact ⟨rfl, HG.out⟩
end Go.Proofs.Qxb6617447a
