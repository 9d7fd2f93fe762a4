import Derived.Test.Qxb6619355aDoorSlx
namespace Go.Proofs.Qxb6619355aDoor
open Go.RowKit

theorem dgs_get {t : ByteArray} (h : dgs t.data.toList) (i : Nat) (hi : i < t.size) : 48 ≤ (t[i]'hi).toNat ∧ (t[i]'hi).toNat ≤ 57 := by
  refine h _ ?_
  have h' : i < t.data.toList.length := by simpa using hi
  exact List.getElem_mem h'
theorem dgs_of {t : ByteArray} (h : ∀ i (hi : i < t.size), 48 ≤ (t[i]'hi).toNat ∧ (t[i]'hi).toNat ≤ 57) : dgs t.data.toList := by
  intro c hc
  obtain ⟨i, hi, rfl⟩ := List.getElem_of_mem hc
  exact h i (by simpa using hi)

set_option maxHeartbeats 2000000 in
set_option maxRecDepth 100000 in
theorem canonical (t : ByteArray) (w : World) :
    Calls Tryd.prog 7 #[.string t] w fun e w' => e = .returned (.bool (size t.data.toList).isSome) ∧ Below w.heap.size w w' := by
  have hl : t.data.toList.length = t.size := by simp
  by_cases h0 : t.size = 0
  · have hz : (size t.data.toList).isSome = false := by
      rw [size_not]
      · rfl
      · rintro ⟨h, _⟩
        exact h (List.eq_nil_of_length_eq_zero (by omega))
    have HZ := hide hz
    have h0z : ((t.size : Int) == 0) = true := by rw [h0]; rfl
    clear hz h0 hl
    go_enter Tryd.func7, Tryd.ntmps7
    go_wp2
    go_ret
    refine ⟨?_, Below.refl _ _⟩
    rw [HZ.out]
    rfl
  by_cases h19 : 19 < t.size
  · have hz : (size t.data.toList).isSome = false := by
      rw [size_long (by omega)]
      rfl
    have HZ := hide hz
    have h0z : ((t.size : Int) == 0) = false := beq_eq_false_iff_ne.2 (by omega)
    have h19z : (19 : Int) < (t.size : Int) := by omega
    clear hz h0 hl h19
    go_enter Tryd.func7, Tryd.ntmps7
    go_wp2
    go_ret
    refine ⟨?_, Below.refl _ _⟩
    rw [HZ.out]
    rfl
  have h0z : ((t.size : Int) == 0) = false := beq_eq_false_iff_ne.2 (by omega)
  have h19z : (t.size : Int) ≤ 19 := by omega
  have hpos : 0 < t.size := by omega
  have hposz : (0 : Int) < (t.size : Int) := by omega
  have HL := hide hl
  clear h0 hl h19
  go_enter Tryd.func7, Tryd.ntmps7
  go_wp2
  go_loop [2, 3] (fun _ s3 => ∃ i : Nat, i ≤ t.size ∧ s3 = .int .i64 i ∧ Hid (∀ j (hj : j < t.size), j < i → 48 ≤ (t[j]'hj).toNat ∧ (t[j]'hj).toNat ≤ 57)) (fun _ s3 => t.size - (intOf s3).toNat)
  case atStart => exact ⟨0, Nat.zero_le _, rfl, fun _ _ h => absurd h (Nat.not_lt_zero _)⟩
  case round =>
    obtain ⟨i, hi, rfl, HD⟩ := hrel
    by_cases hlt : i < t.size
    · have hlz : (i : Int) < (t.size : Int) := by omega
      by_cases hd : 48 ≤ (t[i]'hlt).toNat ∧ (t[i]'hlt).toNat ≤ 57
      · have hd0 : (48 : Int) ≤ ((t[i]'hlt).toNat : Int) := by omega
        have hd1 : ((t[i]'hlt).toNat : Int) ≤ 57 := by omega
        have HDN := hide (show ∀ j (hj : j < t.size), j < i + 1 → 48 ≤ (t[j]'hj).toNat ∧ (t[j]'hj).toNat ≤ 57 from fun j hj h => by
          by_cases e : j = i
          · subst e; exact hd
          · exact HD.out j hj (by omega))
        clear hd HD
        go_wp2
        go_round
        case rel => exact ⟨i + 1, by omega, by go_num, HDN⟩
        case measure => simp [intOf]; omega
      · have hz : (size t.data.toList).isSome = false := by
          rw [size_not]
          · rfl
          · rintro ⟨_, h, _⟩
            exact hd (dgs_get h i hlt)
        have HZ := hide hz
        by_cases h48 : ((t[i]'hlt).toNat : Int) < 48
        · clear hd HD hz
          go_wp2
          go_ret
          refine ⟨?_, Below.refl _ _⟩
          rw [HZ.out]
          rfl
        · have h57 : (57 : Int) < ((t[i]'hlt).toNat : Int) := by omega
          clear hd HD hz
          go_wp2
          go_ret
          refine ⟨?_, Below.refl _ _⟩
          rw [HZ.out]
          rfl
    · have HDG := hide (dgs_of (t := t) fun j hj => HD.out j hj (by omega))
      clear HD hi
      have HH := hide (head_get t hpos)
      have hnem : t.data.toList ≠ [] := by
        intro e
        have := HL.out
        rw [e] at this
        simp only [List.length_nil] at this
        omega
      have HNE := hide hnem
      clear hnem
      by_cases h1 : (1 : Int) < (t.size : Int)
      · cases hq : (((t[0]'hpos).toNat : Int) == 48) with
        | true =>
          have hz : (size t.data.toList).isSome = false := by
            rw [size_not]
            · rfl
            · rintro ⟨_, _, h⟩
              refine h ⟨by have := HL.out; omega, ?_⟩
              rw [HH.out]
              have : (t[0]'hpos).toNat = 48 := by have := beq_iff_eq.1 hq; omega
              rw [show (t[0]'hpos) = 48 from UInt8.toNat_inj.1 this]
          have HZ := hide hz
          clear hz
          go_wp2
          go_ret
          refine ⟨?_, Below.refl _ _⟩
          rw [HZ.out]
          rfl
        | false =>
          have HC := hide (show Canon t.data.toList from ⟨HNE.out, HDG.out, by
            rintro ⟨_, h⟩
            rw [HH.out] at h
            have : t[0]'hpos = 48 := by simpa using h
            rw [this] at hq
            exact absurd hq (by decide)⟩)
          clear HDG HH HNE
          by_cases h19 : (t.size : Int) < 19
          · have HZ := hide (size_short HC.out (by have := HL.out; omega))
            go_wp2
            go_ret
            refine ⟨?_, Below.refl _ _⟩
            rw [HZ.out]
            rfl
          · have HZ := hide (size_iff HC.out)
            have hcall := shortlex ⟨#[57, 50, 50, 51, 51, 55, 50, 48, 51, 54, 56, 53, 52, 55, 55, 53, 56, 48, 55]⟩ t (by decide) w
            go_wp2_with fail
            refine hcall.mono ?_
            rintro e w1 ⟨rfl, hb⟩
            go_wp2_with fail
            go_ret
            refine ⟨?_, hb⟩
            rw [HZ.out]
            rfl
      · have HC := hide (show Canon t.data.toList from ⟨HNE.out, HDG.out, by
          rintro ⟨h, _⟩
          have := HL.out
          omega⟩)
        clear HDG HH HNE
        have HZ := hide (size_short HC.out (by have := HL.out; omega))
        go_wp2
        go_ret
        refine ⟨?_, Below.refl _ _⟩
        rw [HZ.out]
        rfl

end Go.Proofs.Qxb6619355aDoor
