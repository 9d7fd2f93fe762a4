import Derived.Test.Qxb6618694aLaw
namespace Go.Proofs.Qxb6618694a
open Go.RowKit Go.WideShapes

set_option maxHeartbeats 400000 in
theorem cut_big (a : Option Addr) (n c : Nat) (key : ByteArray) (z : Int) (w : World) (hbig : 1048576 < n) :
    Calls Try.prog 3 #[.slice a n c, .string key, .int .i64 z] w fun e w' => e = .returned (.bool true) ∧ Below w.heap.size w w' := by
  go_enter Try.func3, Try.ntmps3
  go_wp2_with (go_at_call 5; refine (bytes3_big _ _ _ _ _ _ hbig).mono ?_; rintro e w' ⟨rfl, rfl⟩)
  go_ret
  exact ⟨rfl, Below.refl _ _⟩

set_option maxHeartbeats 1000000 in
theorem cut_some (ad : Addr) (n c : Nat) (ks : List ByteArray) (key : ByteArray) (z : Int) (w : World) (hn : n = ks.length) (hbig : n ≤ 1048576) (hk : StrRow w (some ad) ks) :
    Calls Try.prog 3 #[.slice (some ad) n c, .string key, .int .i64 z] w fun e w' => e = .returned (.bool true) ∧ Below w.heap.size w w' := by
  obtain ⟨i0, hi, hz0, hz1, hz2⟩ := info_parts Try.info9
  have hb16 : i0.bytes * n ≤ 281474976710656 := by rw [hz2]; omega
  have HN := hide hn
  have HK := hide hk
  have hB := bytes3_small (some ad) n c ks key z w hn hbig hk
  clear hn hk
  go_enter Try.func3, Try.ntmps3
  go_wp2_with fail
  refine hB.mono ?_
  rintro e w' ⟨⟨r, rfl⟩, hw'⟩
  subst hw'
  clear hB
  cases r with
  | false =>
    go_wp2_with fail
    go_ret
    exact ⟨rfl, Below.refl _ _⟩
  | true =>
    go_wp2_with (at_make; refine wpList_make_full _ rfl _ _ 22 rfl w'.heap.size 9 i0 _ 1 Try.underlying22 hi hz0 hz1 _ _ _ _ n rfl rfl rfl rfl hb16 (by unfold maxLen; omega) (Nat.le_refl _) ?_; clear hz0 hz1 hz2 hb16 hi; intro w1 ho hg; obtain ⟨w2, hrun, hB2, hG2⟩ := copy_run (c := c) HN.out HK.out ((Below.refl w'.heap.size w').grown hg (Nat.le_refl _) (by simp)) (Nat.le_refl _) (Nat.le_refl _) (own_block ho) (by have := ho.1; omega); have HB := hide hB2; have HR := hide (row_block hG2); clear ho hg hB2 hG2 HK)
    · go_ret
      exact ⟨rfl, HB.out⟩
    clear hrun
    go_loop [6, 8, 9] (fun _ s8 s9 => ∃ (j : Nat) (t : Int), j ≤ n ∧ s9 = .int .i64 j ∧ s8 = .int .i64 t) (fun _ _ s9 => n - (intOf s9).toNat)
    case atStart => exact ⟨0, _, Nat.zero_le _, rfl, rfl⟩
    case round =>
      obtain ⟨j, t, hj, rfl, rfl⟩ := hrel
      by_cases hlt : j < n
      · have hlz : (j : Int) < (n : Int) := by omega
        obtain ⟨b, off, hbo, _, hc⟩ := HR.out j (by rw [← HN.out]; exact hlt)
        simp only [Option.some.injEq, Addr.mk.injEq, and_true] at hbo
        obtain ⟨rfl, rfl⟩ := hbo
        rw [Nat.zero_add] at hc
        go_wp2_with fail
        all_goals first
          | (go_ret; exact ⟨rfl, HB.out⟩)
          | skip
        go_round
        case rel => exact ⟨j + 1, _, by omega, by go_num, rfl⟩
        case measure => simp [intOf]; omega
      · have : j = n := by omega
        subst this
        clear hj hlt
        by_cases hz : z < 0
        · go_wp2_with fail
          go_ret
          exact ⟨rfl, HB.out⟩
        by_cases hzj : (j : Int) < z
        · have hz' : 0 ≤ z := by omega
          clear hz
          go_wp2_with fail
          go_ret
          exact ⟨rfl, HB.out⟩
        obtain ⟨q, rfl⟩ : ∃ q : Nat, z = q := ⟨z.toNat, by omega⟩
        have hqj : q ≤ j := by omega
        have hqz : (q : Int) ≤ (j : Int) := by omega
        clear hz hzj
        go_wp2_with fail
        refine (newSpan _ _ _ ks _ HN.out (by omega) HR.out).mono ?_
        rintro e w3 ⟨sb, tb, rfl, hb3, hsb, hs, ht⟩
        have hcall := zzTagIndex_any sb tb _ _ ks key w3 hsb hs HN.out (by omega) ht
        have HR3 := hide (HR.out.below hb3)
        have HB3 := hide (HB.out.trans (hb3.mono HB.out.size))
        clear hb3 hsb hs ht HR HB
        go_wp2_with fail
        refine hcall.mono ?_
        rintro e w4 ⟨rfl, hb4⟩
        have HR4 := hide (HR3.out.below hb4)
        have HB4 := hide (HB3.out.trans (hb4.mono HB3.out.size))
        clear hb4 hcall HR3 HB3
        generalize hr : idx ks key = r
        have HR1 := hide hr
        clear hr
        go_wp2_with fail
        refine (newSpan _ _ _ (ks.take q) _ (by have := HN.out; simp; omega) (by omega) (HR4.out.take q)).mono ?_
        rintro e w5 ⟨sb5, tb5, rfl, hb5, hsb5, hs5, ht5⟩
        have hcall := zzTagIndex_any sb5 tb5 _ _ (ks.take q) key w5 hsb5 hs5 (by have := HN.out; simp; omega) (by omega) ht5
        have HR5 := hide (HR4.out.below hb5)
        have HB5 := hide (HB4.out.trans (hb5.mono HB4.out.size))
        clear hb5 hsb5 hs5 ht5 HR4 HB4
        go_wp2_with fail
        refine hcall.mono ?_
        rintro e w6 ⟨rfl, hb6⟩
        have HR6 := hide (HR5.out.below hb6)
        have HB6 := hide (HB5.out.trans (hb6.mono HB5.out.size))
        clear hb6 hcall HR5 HB5
        generalize hr : idx (ks.take q) key = ra
        have HRA := hide hr
        clear hr
        go_wp2_with fail
        all_goals
          refine (newSpan _ _ _ (ks.drop q) _ (by have := HN.out; simp; omega) (by omega) (HR6.out.drop q _ (by have := HN.out; intro h; simp; try omega))).mono ?_
          rintro e w7 ⟨sb7, tb7, rfl, hb7, hsb7, hs7, ht7⟩
          have hcall := zzTagIndex_any sb7 tb7 _ _ (ks.drop q) key w7 hsb7 hs7 (by have := HN.out; simp; omega) (by omega) ht7
          have HR7 := hide (HR6.out.below hb7)
          have HB7 := hide (HB6.out.trans (hb7.mono HB6.out.size))
          clear hb7 hsb7 hs7 ht7 HR6 HB6
          go_wp2_with fail
          refine hcall.mono ?_
          rintro e w8 ⟨rfl, hb8⟩
          have HR8 := hide (HR7.out.below hb8)
          have HB8 := hide (HB7.out.trans (hb8.mono HB7.out.size))
          clear hb8 hcall HR7 HB7
          have hcut := idx_cut ks key q (by have := HN.out; omega)
          have hrbb := idx_bounds (ks.drop q) key
          rw [HR1.out, HRA.out] at hcut
          have hdl : ((ks.drop q).length : Int) ≤ 1048576 := by have := HN.out; simp; omega
          generalize idx (ks.drop q) key = rb at hcut hrbb
          have hrb1 : -1 ≤ rb := hrbb.1
          have hrb2 : rb ≤ 1048576 := by omega
          clear hrbb hdl
          have h3 : (0 ≤ ra ∧ (r == ra) = true) ∨ (ra < 0 ∧ 0 ≤ rb ∧ (r == (q : Int) + rb) = true) ∨ (ra < 0 ∧ rb < 0 ∧ (r == -1) = true) := by
            by_cases g1 : 0 ≤ ra
            · rw [if_pos g1] at hcut; exact .inl ⟨g1, beq_iff_eq.2 hcut⟩
            · by_cases g2 : 0 ≤ rb
              · rw [if_neg g1, if_pos g2] at hcut; exact .inr (.inl ⟨by omega, g2, beq_iff_eq.2 hcut⟩)
              · rw [if_neg g1, if_neg g2] at hcut; exact .inr (.inr ⟨by omega, by omega, beq_iff_eq.2 hcut⟩)
          clear hcut
          rcases h3 with ⟨g1, g3⟩ | ⟨g1, g2, g3⟩ | ⟨g1, g2, g3⟩
          all_goals
            go_wp2_with fail
            go_loop [14, 15] (fun s14 s15 => ∃ i : Nat, i ≤ j ∧ s15 = .int .i64 i ∧ s14 = .int .i64 (-1) ∧ Hid (∀ t, t < i → ((ks.getD t ByteArray.empty).toList == key.toList) = false)) (fun _ s15 => j - (intOf s15).toNat)
            case atStart => exact ⟨0, Nat.zero_le _, rfl, rfl, fun t ht => absurd ht (Nat.not_lt_zero _)⟩
            case round =>
              obtain ⟨i, hi', rfl, rfl, HM⟩ := hrel
              by_cases hlt : i < j
              · have hlz : (i : Int) < (j : Int) := by omega
                obtain ⟨b, off, hbo, _, hc⟩ := HR8.out i (by rw [← HN.out]; exact hlt)
                simp only [Option.some.injEq, Addr.mk.injEq, and_true] at hbo
                obtain ⟨rfl, rfl⟩ := hbo
                rw [Nat.zero_add] at hc
                generalize hy : ks.getD i ByteArray.empty = y at hc
                have HY := hide hy
                clear hy
                cases hq : (y.toList == key.toList) with
                | true =>
                  have hri : (r == (i : Int)) = true := by
                    rw [← HR1.out, idx_hit (j := i) (by rw [← HN.out]; exact hlt) (by rw [HY.out]; exact hq) HM.out]; simp
                  go_wp2_with fail
                  go_ret
                  exact ⟨rfl, HB8.out⟩
                | false =>
                  go_wp2_with fail
                  go_round
                  case rel =>
                    refine ⟨i + 1, by omega, by go_num, rfl, (show Hid _ from fun t ht => ?_)⟩
                    by_cases e : t = i
                    · subst e; rw [HY.out]; exact hq
                    · exact HM.out t (by omega)
                  case measure => simp [intOf]; omega
              · have : i = j := by omega
                subst this
                have hri : (r == (-1 : Int)) = true := by
                  rw [← HR1.out, idx_miss (fun t ht => HM.out t (by rw [HN.out]; exact ht))]; rfl
                go_wp2_with fail
                go_ret
                exact ⟨rfl, HB8.out⟩

end Go.Proofs.Qxb6618694a
