import Derived.Test.Qxb6617447aTemp
import Derived.RowKit3
namespace Go.Proofs.Qxb6617447a
open Go.RowKit

/-- The suffix. -/
def sfx (random : ByteArray) : ByteArray := ⟨#[46]⟩ ++ random ++ ⟨#[46, 116, 109, 112]⟩

theorem bytes_eq {a b : ByteArray} (h : a.data.toList = b.data.toList) : a = b := by
  cases a; cases b
  simp only [ByteArray.mk.injEq]
  exact Array.ext' h

theorem nm_list (b random : ByteArray) : (nm b random).data.toList = 46 :: (b.data.toList ++ (46 :: (random.data.toList ++ [46, 116, 109, 112]))) := by
  simp [nm]
theorem sfx_list (random : ByteArray) : (sfx random).data.toList = 46 :: (random.data.toList ++ [46, 116, 109, 112]) := by
  simp [sfx]
theorem size_list (b : ByteArray) : b.size = b.data.toList.length := by simp
theorem nm_size (b random : ByteArray) : (nm b random).size = b.size + random.size + 6 := by
  rw [size_list, nm_list]; simp; omega
theorem extract_list (b : ByteArray) (i j : Nat) : (b.extract i j).data.toList = (b.data.toList.take j).drop i := by
  simp [List.drop_take]

theorem nm_body (b random : ByteArray) : (nm b random).extract 1 (1 + b.size) = b := by
  apply bytes_eq
  rw [extract_list, nm_list, Nat.add_comm 1 b.size, List.take_succ_cons, List.drop_succ_cons, List.drop_zero, size_list, List.take_left']
  rfl
theorem nm_tail (b random : ByteArray) : (nm b random).extract (1 + b.size) (nm b random).size = sfx random := by
  apply bytes_eq
  rw [extract_list, List.take_of_length_le (by rw [size_list]; exact Nat.le_refl _), nm_list, sfx_list, Nat.add_comm 1 b.size, List.drop_succ_cons, size_list, List.drop_left']
  rfl
theorem nm_head (b random : ByteArray) (h : 0 < (nm b random).size) : ((((nm b random)[0]'h).toNat : Nat) : Int) = 46 := by
  have : (nm b random)[0]'h = (nm b random).data.toList[0]'(by rw [size_list] at h; exact h) := by
    rfl
  rw [this]
  simp only [nm_list]
  rfl

set_option maxHeartbeats 1000000 in
theorem split_core (out base random : ByteArray) (k : Nat) (hb : base.size ≤ 2097152) (hr : random.size ≤ 1048576) (hk : k ≤ base.size) (ho : (out.size : Int) = (k : Int) + (random.size : Int) + 6) (hop : 0 < out.size) (h46 : ((out[0]'hop).toNat : Int) = 46)
    (q1 : ((out.extract 1 (1 + k)).toList == (base.extract 0 k).toList) = true) (q2 : ((out.extract (1 + k) out.size).toList == (({ data := #[46] } : ByteArray) ++ random ++ { data := #[46, 116, 109, 112] }).toList) = true) (w : World) :
    Calls Try.prog 8 #[.string out, .string base, .string random] w fun e w' => e = .returned (.tuple #[.int .i64 k, .bool true]) ∧ w' = w.drew := by
  have h1 : (out.size : Int) - 1 - (1 + (random.size : Int) + 4) = k := by omega
  have h46' : (((out[0]'hop).toNat : Int) != 46) = false := by rw [h46]; rfl
  have hge : (random.size : Int) + 6 ≤ (out.size : Int) := by omega
  have hk1 : (1 : Int) + (k : Int) ≤ (out.size : Int) := by omega
  have hk2 : (k : Int) ≤ (base.size : Int) := by omega
  clear ho
  go_enter Try.func8, Try.ntmps8
  go_wp2
  go_region
  go_wp2
  go_ret2
  exact ⟨rfl, rfl⟩

/-- zzSplitTemp finds the length that was kept. -/
theorem split_any (base random : ByteArray) (k : Nat) (hb : base.size ≤ 2097152) (hr : random.size ≤ 1048576) (hk : k ≤ base.size) (w : World) :
    Calls Try.prog 8 #[.string (nm (base.extract 0 k) random), .string base, .string random] w fun e w' => e = .returned (.tuple #[.int .i64 k, .bool true]) ∧ w' = w.drew := by
  have hs : (base.extract 0 k).size = k := by rw [size_list, extract_list]; simp; omega
  have hz : (nm (base.extract 0 k) random).size = k + random.size + 6 := by rw [nm_size, hs]
  have hb1 := nm_body (base.extract 0 k) random
  have ht1 := nm_tail (base.extract 0 k) random
  rw [hs] at hb1 ht1
  refine split_core _ base random k hb hr hk (by rw [hz]; omega) (by rw [hz]; omega) (nm_head _ _ _) ?_ ?_ w
  · rw [hb1]; simp
  · rw [ht1]; simp [sfx]

end Go.Proofs.Qxb6617447a
