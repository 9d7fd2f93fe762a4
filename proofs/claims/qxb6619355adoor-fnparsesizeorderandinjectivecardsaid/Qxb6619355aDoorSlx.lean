import Derived.Test.Qxb6619355aDoorPlain
namespace Go.Proofs.Qxb6619355aDoor
open Go.RowKit

theorem get_list (t : ByteArray) (i : Nat) (h : i < t.size) : t.data.toList.drop i = (t[i]'h) :: t.data.toList.drop (i + 1) := by
  have h' : i < t.data.toList.length := by simpa using h
  rw [List.drop_eq_getElem_cons h']
  rfl

theorem lex_step (a b : ByteArray) (i : Nat) (ha : i < a.size) (hb : i < b.size) :
    lex (a.data.toList.drop i) (b.data.toList.drop i) = if (a[i]'ha).toNat = (b[i]'hb).toNat then lex (a.data.toList.drop (i + 1)) (b.data.toList.drop (i + 1)) else decide ((a[i]'ha).toNat < (b[i]'hb).toNat) := by
  rw [get_list a i ha, get_list b i hb, lex]

set_option maxHeartbeats 1000000 in
theorem slx_ne (a b : ByteArray) (hne : a.size ≠ b.size) (w : World) :
    Calls Tryd.prog 10 #[.string a, .string b] w fun e w' => e = .returned (.bool (slx a.data.toList b.data.toList)) ∧ Below w.heap.size w w' := by
  have hnez : ((a.size : Int) != (b.size : Int)) = true := by rw [bne_iff_ne]; omega
  have hs : slx a.data.toList b.data.toList = decide (a.size < b.size) := by
    unfold slx
    rw [if_neg (by simpa using hne)]
    simp
  have HS := hide hs
  clear hs hne
  go_enter Tryd.func10, Tryd.ntmps10
  go_wp2
  go_ret
  refine ⟨?_, Below.refl _ _⟩
  rw [HS.out]
  rfl

set_option maxHeartbeats 1000000 in
theorem slx_eq (a b : ByteArray) (ha : a.size ≤ 1048576) (heq : a.size = b.size) (w : World) :
    Calls Tryd.prog 10 #[.string a, .string b] w fun e w' => e = .returned (.bool (slx a.data.toList b.data.toList)) ∧ Below w.heap.size w w' := by
  have hnez : ((a.size : Int) != (b.size : Int)) = false := by rw [heq]; simp
  have hs : slx a.data.toList b.data.toList = lex a.data.toList b.data.toList := by
    unfold slx
    rw [if_pos (by simpa using heq)]
  rw [hs]
  have HE := hide heq
  clear hs heq
  go_enter Tryd.func10, Tryd.ntmps10
  go_wp2
  go_loopw [4, 5] (fun _ s5 wr => ∃ i : Nat, i ≤ a.size ∧ s5 = .int .i64 i ∧ Hid (Below w.heap.size w wr) ∧ Hid (lex a.data.toList b.data.toList = lex (a.data.toList.drop i) (b.data.toList.drop i))) (fun _ s5 _ => a.size - (intOf s5).toNat)
  case atStart => exact ⟨0, Nat.zero_le _, rfl, Below.refl _ _, rfl⟩
  case round =>
    obtain ⟨i, hi, rfl, HB, HL⟩ := hrel
    by_cases hlt : i < a.size
    · have hlz : (i : Int) < (a.size : Int) := by omega
      have hlb : i < b.size := by have := HE.out; omega
      have hlbz : (i : Int) < (b.size : Int) := by omega
      have hst := HL.out.trans (lex_step a b i hlt hlb)
      clear HL
      by_cases hxy : (a[i]'hlt).toNat = (b[i]'hlb).toNat
      · rw [if_pos hxy] at hst
        have HST := hide hst
        have hq : (((a[i]'hlt).toNat : Int) != ((b[i]'hlb).toNat : Int)) = false := by rw [hxy]; simp
        clear hst hxy
        go_wp2
        go_region
        go_wp2
        go_roundw
        case rel => exact ⟨i + 1, by omega, by go_num, HB.out.drew, HST⟩
        case measure => simp [intOf]; omega
      · rw [if_neg hxy] at hst
        have HST := hide hst
        have hq : (((a[i]'hlt).toNat : Int) != ((b[i]'hlb).toNat : Int)) = true := by rw [bne_iff_ne]; omega
        clear hst
        clear hxy
        go_wp2
        go_region
        go_wp2
        go_region
        go_wp2
        go_ret
        refine ⟨?_, HB.out.drew.drew⟩
        rw [HST.out]
        rfl
    · have HR := hide (show lex a.data.toList b.data.toList = false by
        rw [HL.out, List.drop_eq_nil_of_le (by simp; omega)]
        rfl)
      clear HL
      go_wp2
      go_ret
      refine ⟨?_, HB.out⟩
      rw [HR.out]
      rfl

theorem shortlex (a b : ByteArray) (ha : a.size ≤ 1048576) (w : World) :
    Calls Tryd.prog 10 #[.string a, .string b] w fun e w' => e = .returned (.bool (slx a.data.toList b.data.toList)) ∧ Below w.heap.size w w' := by
  by_cases h : a.size = b.size
  · exact slx_eq a b ha h w
  · exact slx_ne a b h w

end Go.Proofs.Qxb6619355aDoor
