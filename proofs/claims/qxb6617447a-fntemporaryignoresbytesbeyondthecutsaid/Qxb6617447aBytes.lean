import Derived.Test.Qxb6617447aSplit
namespace Go.Proofs.Qxb6617447a
open Go.RowKit

/-- It returns a bool, whichever. -/
def RetBool (e : Ending) : Prop := ∃ r, e = .returned (.bool r)

set_option maxHeartbeats 400000 in
theorem bytes3 (a b : ByteArray) (z : Int) (w : World) : Calls Try.prog 6 #[.string a, .string b, .int .i64 z] w fun e w' => RetBool e ∧ w' = w := by
  go_enter Try.func6, Try.ntmps6
  go_wp2
  all_goals (go_ret; exact ⟨⟨_, rfl⟩, rfl⟩)
set_option maxHeartbeats 400000 in
theorem bytes4 (a b c : ByteArray) (z : Int) (w : World) : Calls Try.prog 10 #[.string a, .string b, .string c, .int .i64 z] w fun e w' => RetBool e ∧ w' = w := by
  go_enter Try.func10, Try.ntmps10
  go_wp2
  all_goals (go_ret; exact ⟨⟨_, rfl⟩, rfl⟩)
set_option maxHeartbeats 400000 in
theorem bytes5 (a b : ByteArray) (y z : Int) (w : World) : Calls Try.prog 11 #[.string a, .string b, .int .i64 y, .int .i64 z] w fun e w' => RetBool e ∧ w' = w := by
  go_enter Try.func11, Try.ntmps11
  go_wp2
  all_goals (go_ret; exact ⟨⟨_, rfl⟩, rfl⟩)

/-! Plain facts on what is kept. -/
theorem kept_le (base random : ByteArray) (limit : Int) : kept base random limit ≤ base.size := by
  unfold kept
  split
  · have := cutAt_le base (limit - ((random.size : Int) + 6)).toNat; omega
  · exact Nat.le_refl _

theorem kept_room (base random : ByteArray) (limit : Int) (h : (random.size : Int) + 6 ≤ limit) : (kept base random limit : Int) + (random.size : Int) + 6 ≤ limit := by
  unfold kept
  split
  · have := cutAt_le base (limit - ((random.size : Int) + 6)).toNat; omega
  · omega

theorem extract_size (b : ByteArray) (k : Nat) (h : k ≤ b.size) : (b.extract 0 k).size = k := by rw [size_list, extract_list]; simp; omega

theorem cutAt_append (base tail : ByteArray) (k : Nat) (h : k < base.size) : cutAt (base ++ tail) k = cutAt base k := by
  induction k with
  | zero => rfl
  | succ k ih =>
    have hl : k + 1 < (base ++ tail).size := by simp; omega
    rw [cutAt, cutAt, dif_pos hl, dif_pos h, ih (by omega)]
    have e : (base ++ tail)[k + 1]'hl = base[k + 1]'h := by
      exact ByteArray.getElem_append_left h
    rw [e]

theorem kept_append (base tail random : ByteArray) (limit : Int) (h : limit < (base.size : Int) + ((random.size : Int) + 6)) : kept (base ++ tail) random limit = kept base random limit := by
  unfold kept
  have hs : (base ++ tail).size = base.size + tail.size := by simp
  by_cases h0 : (limit - ((random.size : Int) + 6)).toNat < base.size
  · rw [if_pos (by omega), if_pos h0, cutAt_append _ _ _ h0]
  · have hz : (limit - ((random.size : Int) + 6)).toNat = 0 := by omega
    rw [if_neg h0, hz]
    split
    · show 0 = _; omega
    · omega

theorem extract_append (base tail : ByteArray) (k : Nat) (h : k ≤ base.size) : (base ++ tail).extract 0 k = base.extract 0 k := by
  apply bytes_eq
  rw [extract_list, extract_list]
  rw [size_list] at h
  simp [List.take_append_of_le_length h]

end Go.Proofs.Qxb6617447a
