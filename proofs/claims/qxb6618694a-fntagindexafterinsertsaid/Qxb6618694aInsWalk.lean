import Derived.Test.Qxb6618694aInsLaw
namespace Go.Proofs.Qxb6618694a
open Go.RowKit Go.WideShapes

set_option maxHeartbeats 400000 in
theorem ins_big (a : Option Addr) (n c : Nat) (key ins : ByteArray) (z : Int) (w : World) (hbig : 1048576 < n) :
    Calls Try.prog 4 #[.slice a n c, .string key, .int .i64 z, .string ins] w fun e w' => e = .returned (.bool true) ∧ Below w.heap.size w w' := by
  go_enter Try.func4, Try.ntmps4
  go_wp2_with (go_at_call 8; refine (bytes4_big _ _ _ _ _ _ _ hbig).mono ?_; rintro e w' ⟨rfl, rfl⟩)
  go_ret
  exact ⟨rfl, Below.refl _ _⟩

/-- What holds while the grown row (block g) is being filled from the keys (block k): 'L' is what it holds. -/
def Fill (w : World) (k g n : Nat) (ks L : List ByteArray) (wr : World) : Prop :=
  Below w.heap.size w wr ∧ StrRow wr (some ⟨k, 0, none⟩) ks ∧ RowIs wr g L ∧ L.length = n + 1

theorem Fill.step {w wr : World} {k g n i : Nat} {ks L : List ByteArray} (h : Fill w k g n ks L wr) (hk : k ≠ g) (hg : w.heap.size ≤ g) (s : ByteArray) : Fill w k g n ks (L.set i s) (wr.setCell ⟨g, i, none⟩ (.string s)) :=
  ⟨h.1.setCell hg _, h.2.1.setCell hk _, h.2.2.1.set i s, by rw [List.length_set]; exact h.2.2.2⟩

theorem getD_set_same (L : List ByteArray) (i : Nat) (s : ByteArray) (hi : i < L.length) : (L.set i s).getD i ByteArray.empty = s := by
  simp [hi]
theorem getD_set_other (L : List ByteArray) (i j : Nat) (s : ByteArray) (hi : i ≠ j) : (L.set i s).getD j ByteArray.empty = L.getD j ByteArray.empty := by
  simp [hi]

set_option maxRecDepth 100000 in
set_option maxHeartbeats 2000000 in
theorem ins_some (ad : Addr) (n c : Nat) (ks : List ByteArray) (key ins : ByteArray) (z : Int) (w : World) (hn : n = ks.length) (hbig : n ≤ 1048576) (hk : StrRow w (some ad) ks) :
    Calls Try.prog 4 #[.slice (some ad) n c, .string key, .int .i64 z, .string ins] w fun e w' => e = .returned (.bool true) ∧ Below w.heap.size w w' := by
  obtain ⟨i0, hi, hz0, hz1, hz2⟩ := info_parts Try.info9
  have hb16 : i0.bytes * n ≤ 281474976710656 := by rw [hz2]; omega
  have HB17 := hide (show i0.bytes * (n + 1) ≤ 281474976710656 by rw [hz2]; omega)
  have HI := hide hi
  have HZ0 := hide hz0
  have HZ1 := hide hz1
  have HN := hide hn
  have HK := hide hk
  have hB := bytes4_small (some ad) n c ks key ins z w hn hbig hk
  clear hn hk
  go_enter Try.func4, Try.ntmps4
  go_wp2_with fail
  refine hB.mono ?_
  rintro e w' ⟨⟨r, rfl⟩, hw'⟩
  subst hw'
  clear hB
  cases r with
  | false =>
    go_wp2_with fail
    go_ret
    exact ⟨rfl, Below.refl _ _⟩
  | true =>
    go_wp2_with (at_make; refine wpList_make_full _ rfl _ _ 22 rfl w'.heap.size 9 i0 _ 1 Try.underlying22 hi hz0 hz1 _ _ _ _ n rfl rfl rfl rfl hb16 (by unfold maxLen; omega) (Nat.le_refl _) ?_; clear hz0 hz1 hz2 hb16 hi; intro w1 ho hg; obtain ⟨w2, hrun, hB2, hG2⟩ := copy_run (c := c) HN.out HK.out ((Below.refl w'.heap.size w').grown hg (Nat.le_refl _) (by simp)) (Nat.le_refl _) (Nat.le_refl _) (own_block ho) (by have := ho.1; omega); have HB := hide hB2; have HR := hide (row_block hG2); have HLT := hide (lt_of_block hG2); clear ho hg hB2 hG2 HK)
    · go_ret
      exact ⟨rfl, HB.out⟩
    clear hrun
    go_loop [8, 10, 11] (fun _ s10 s11 => ∃ (j : Nat) (t : Int), j ≤ n ∧ s11 = .int .i64 j ∧ s10 = .int .i64 t) (fun _ _ s11 => n - (intOf s11).toNat)
    case atStart => exact ⟨0, _, Nat.zero_le _, rfl, rfl⟩
    case round =>
      obtain ⟨j, t, hj, rfl, rfl⟩ := hrel
      by_cases hlt : j < n
      · have hlz : (j : Int) < (n : Int) := by omega
        obtain ⟨b, off, hbo, _, hc⟩ := HR.out j (by rw [← HN.out]; exact hlt)
        simp only [Option.some.injEq, Addr.mk.injEq, and_true] at hbo
        obtain ⟨rfl, rfl⟩ := hbo
        rw [Nat.zero_add] at hc
        go_wp2_with fail
        all_goals first
          | (go_ret; exact ⟨rfl, HB.out⟩)
          | skip
        go_round
        case rel => exact ⟨j + 1, _, by omega, by go_num, rfl⟩
        case measure => simp [intOf]; omega
      · have : j = n := by omega
        subst this
        clear hj hlt
        by_cases hz : z < 0
        · go_wp2_with fail
          go_ret
          exact ⟨rfl, HB.out⟩
        by_cases hzj : (j : Int) < z
        · have hz' : 0 ≤ z := by omega
          clear hz
          go_wp2_with fail
          go_ret
          exact ⟨rfl, HB.out⟩
        obtain ⟨q, rfl⟩ : ∃ q : Nat, z = q := ⟨z.toNat, by omega⟩
        have hqj : q ≤ j := by omega
        have hqz : (q : Int) ≤ (j : Int) := by omega
        clear hz hzj
        go_wp2_with (at_make; refine wpList_make_full _ rfl _ _ 22 rfl w'.heap.size 9 i0 _ 1 Try.underlying22 HI.out HZ0.out HZ1.out _ _ _ _ (j + 1) rfl rfl (by omega) (by omega) HB17.out (by unfold maxLen; omega) (by have := HB.out.size; exact this) ?_; intro w3 ho hg; have HG3 := hide hg; have HF := hide (show Fill w' w'.heap.size w2.heap.size j ks (List.replicate (j + 1) ByteArray.empty) w3 from ⟨HB.out.grown hg HB.out.size (by simp), HR.out.below ((Below.refl _ _).grown hg (Nat.le_refl _) (by simp)), rowIs_made ho, by simp⟩); clear ho hg)
        have hne : w'.heap.size ≠ w2.heap.size := Nat.ne_of_lt HLT.out
        have hge : w'.heap.size ≤ w2.heap.size := HB.out.size
        clear HG3 HI HZ0 HZ1 HB17
        go_loopw [13] (fun s13 wr => ∃ i : Nat, i ≤ q ∧ s13 = .int .i64 i ∧ ∃ L, Hid (Fill w' w'.heap.size w2.heap.size j ks L wr) ∧ Hid (∀ t, t < i → L.getD t ByteArray.empty = ks.getD t ByteArray.empty)) (fun s13 _ => q - (intOf s13).toNat)
        case atStart => exact ⟨0, Nat.zero_le _, rfl, _, HF, fun t ht => absurd ht (Nat.not_lt_zero _)⟩
        case round =>
          obtain ⟨i, hiq, rfl, L, HL, HP⟩ := hrel
          clear HF
          by_cases hlt : i < q
          · have hlz : (i : Int) < (q : Int) := by omega
            have hlj : (i : Int) < (j : Int) := by omega
            obtain ⟨b, off, hbo, _, hc⟩ := HL.out.2.1 i (by rw [← HN.out]; omega)
            simp only [Option.some.injEq, Addr.mk.injEq, and_true] at hbo
            obtain ⟨rfl, rfl⟩ := hbo
            rw [Nat.zero_add] at hc
            obtain ⟨x, hx, hfx⟩ := HL.out.2.2.1.cell (i := i) (by rw [HL.out.2.2.2]; omega)
            generalize hy : ks.getD i ByteArray.empty = y at hc
            have HY := hide hy
            clear hy
            go_wp2_with fail
            go_roundw
            case rel =>
              refine ⟨i + 1, by omega, by go_num, L.set i y, HL.out.step hne hge y, (show Hid _ from fun t ht => ?_)⟩
              by_cases e : t = i
              · subst e; rw [getD_set_same _ _ _ (by rw [HL.out.2.2.2]; omega), HY.out]
              · rw [getD_set_other _ _ _ _ (by omega)]; exact HP.out t (by omega)
            case measure => simp [intOf]; omega
          · have : i = q := by omega
            subst this
            clear hiq hlt
            obtain ⟨x, hx, hfx⟩ := HL.out.2.2.1.cell (i := i) (by rw [HL.out.2.2.2]; omega)
            have hij : (i : Int) < (j : Int) + 1 := by omega
            go_wp2_with fail
            have HF2 := hide (HL.out.step (i := i) hne hge ins)
            have HP2 := hide (show (∀ t, t < i → (L.set i ins).getD t ByteArray.empty = ks.getD t ByteArray.empty) ∧ (L.set i ins).getD i ByteArray.empty = ins from
              ⟨fun t ht => by rw [getD_set_other _ _ _ _ (by omega)]; exact HP.out t ht, getD_set_same _ _ _ (by rw [HL.out.2.2.2]; omega)⟩)
            clear HL HP hx hfx
            go_loopw [14] (fun s14 wr => ∃ m : Nat, i ≤ m ∧ m ≤ j ∧ s14 = .int .i64 m ∧ ∃ L, Hid (Fill w' w'.heap.size w2.heap.size j ks L wr) ∧ Hid ((∀ t, t < i → L.getD t ByteArray.empty = ks.getD t ByteArray.empty) ∧ L.getD i ByteArray.empty = ins) ∧ Hid (∀ t, i ≤ t → t < m → L.getD (t + 1) ByteArray.empty = ks.getD t ByteArray.empty)) (fun s14 _ => j - (intOf s14).toNat)
            case atStart => exact ⟨i, Nat.le_refl _, hqj, rfl, _, HF2, HP2, (show Hid _ from fun t h1 h2 => absurd h2 (by omega))⟩
            case round =>
              obtain ⟨m, him, hmj, rfl, L', HL, HP, HQ⟩ := hrel
              clear HF2 HP2
              by_cases hlt : m < j
              · have hlz : (m : Int) < (j : Int) := by omega
                obtain ⟨b, off, hbo, _, hc⟩ := HL.out.2.1 m (by rw [← HN.out]; omega)
                simp only [Option.some.injEq, Addr.mk.injEq, and_true] at hbo
                obtain ⟨rfl, rfl⟩ := hbo
                rw [Nat.zero_add] at hc
                obtain ⟨x, hx, hfx⟩ := HL.out.2.2.1.cell (i := m + 1) (by rw [HL.out.2.2.2]; omega)
                generalize hy : ks.getD m ByteArray.empty = y at hc
                have HY := hide hy
                clear hy
                go_wp2_with fail
                go_roundw
                case rel =>
                  refine ⟨m + 1, by omega, by omega, by go_num, L'.set (m + 1) y, HL.out.step hne hge y, (show Hid _ from ⟨fun t ht => ?_, ?_⟩), (show Hid _ from fun t h1 h2 => ?_)⟩
                  · rw [getD_set_other _ _ _ _ (by omega)]; exact HP.out.1 t ht
                  · rw [getD_set_other _ _ _ _ (by omega)]; exact HP.out.2
                  · by_cases e : t = m
                    · subst e; rw [getD_set_same _ _ _ (by rw [HL.out.2.2.2]; omega), HY.out]
                    · rw [getD_set_other _ _ _ _ (by omega)]; exact HQ.out t h1 (by omega)
                case measure => simp [intOf]; omega
              · have : m = j := by omega
                subst this
                have HG := hide (grown_eq ks L' ins i (by have := HN.out; omega) (by have := HN.out; have := HL.out.2.2.2; omega) HP.out.1 HP.out.2 (fun t h1 h2 => HQ.out t h1 (by have := HN.out; omega)))
                clear HP HQ hlt hmj
                go_wp2_with fail
                refine (newSpan _ _ _ ks _ HN.out (by omega) HL.out.2.1).mono ?_
                rintro e w3 ⟨sb, tb, rfl, hb3, hsb, hs, ht⟩
                have hcall := zzTagIndex_any sb tb _ _ ks key w3 hsb hs HN.out (by omega) ht
                have HR3 := hide (HL.out.2.1.below hb3)
                have HS3 := hide (HL.out.2.2.1.strRow.below hb3)
                have HB3 := hide (HL.out.1.trans (hb3.mono HL.out.1.size))
                have HLL := hide HL.out.2.2.2
                clear hb3 hsb hs ht HR HB HL
                go_wp2_with fail
                refine hcall.mono ?_
                rintro e w4 ⟨rfl, hb4⟩
                have HR4 := hide (HR3.out.below hb4)
                have HS4 := hide (HS3.out.below hb4)
                have HB4 := hide (HB3.out.trans (hb4.mono HB3.out.size))
                clear hb4 hcall HR3 HB3 HS3
                generalize hr : idx ks key = o
                have HO1 := hide hr
                clear hr
                go_wp2_with fail
                refine (newSpan _ _ _ L' _ HLL.out.symm (by omega) HS4.out).mono ?_
                rintro e w5 ⟨sb5, tb5, rfl, hb5, hsb5, hs5, ht5⟩
                have hcall := zzTagIndex_any sb5 tb5 _ _ L' key w5 hsb5 hs5 HLL.out.symm (by omega) ht5
                have HR5 := hide (HR4.out.below hb5)
                have HB5 := hide (HB4.out.trans (hb5.mono HB4.out.size))
                clear hb5 hsb5 hs5 ht5 HR4 HB4 HS4
                go_wp2_with fail
                refine hcall.mono ?_
                rintro e w6 ⟨rfl, hb6⟩
                have HR6 := hide (HR5.out.below hb6)
                have HB6 := hide (HB5.out.trans (hb6.mono HB5.out.size))
                clear hb6 hcall HR5 HB5
                have hins := idx_insert ks key ins i (by have := HN.out; omega)
                have hob := idx_bounds ks key
                rw [← HG.out, HO1.out] at hins
                rw [HO1.out, ← HN.out] at hob
                generalize idx L' key = af at hins
                by_cases ho0 : o < 0
                · obtain rfl : o = -1 := by omega
                  clear ho0 hob
                  rw [if_neg (by omega)] at hins
                  cases hq : (ins.toList == key.toList) with
                  | true =>
                    rw [if_pos hq] at hins
                    have haf : (af == (i : Int)) = true := beq_iff_eq.2 hins
                    clear hins
                    go_wp2_with fail
                    go_ret
                    exact ⟨rfl, HB6.out⟩
                  | false =>
                    rw [if_neg (by simp [hq]), if_neg (by omega)] at hins
                    have haf : (af == -1) = true := beq_iff_eq.2 hins
                    clear hins
                    go_wp2_with fail
                    go_ret
                    exact ⟨rfl, HB6.out⟩
                · obtain ⟨x, rfl⟩ : ∃ x : Nat, o = x := ⟨o.toNat, by omega⟩
                  have hxm : (x : Int) < (m : Int) := hob.2
                  clear ho0 hob
                  have hh := idx_holds HO1.out
                  obtain ⟨b, off, hbo, _, hc⟩ := HR6.out x hh.1
                  simp only [Option.some.injEq, Addr.mk.injEq, and_true] at hbo
                  obtain ⟨rfl, rfl⟩ := hbo
                  rw [Nat.zero_add] at hc
                  have hky := hh.2
                  clear hh
                  generalize ks.getD x ByteArray.empty = y at hc hky
                  by_cases hxi : x < i
                  · have hxz : (x : Int) < (i : Int) := by omega
                    rw [if_pos (by omega)] at hins
                    have haf : (af == (x : Int)) = true := beq_iff_eq.2 hins
                    clear hins
                    go_wp2_with fail
                    go_ret
                    exact ⟨rfl, HB6.out⟩
                  · have hxz : (i : Int) ≤ (x : Int) := by omega
                    rw [if_neg (by omega)] at hins
                    cases hq : (ins.toList == key.toList) with
                    | true =>
                      rw [if_pos hq] at hins
                      have haf : (af == (i : Int)) = true := beq_iff_eq.2 hins
                      clear hins
                      go_wp2_with fail
                      go_ret
                      exact ⟨rfl, HB6.out⟩
                    | false =>
                      rw [if_neg (by simp [hq]), if_pos (by omega)] at hins
                      have haf : (af == (x : Int) + 1) = true := beq_iff_eq.2 hins
                      clear hins
                      go_wp2_with fail
                      go_ret
                      exact ⟨rfl, HB6.out⟩

end Go.Proofs.Qxb6618694a
