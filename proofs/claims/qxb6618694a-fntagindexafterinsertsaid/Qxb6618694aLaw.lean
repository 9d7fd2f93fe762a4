import Derived.Test.Qxb6618694aBytes
namespace Go.Proofs.Qxb6618694a
open Go.RowKit

theorem idxFrom_bounds (key : ByteArray) (ks : List ByteArray) (i : Nat) : idxFrom key i ks = -1 ∨ ((i : Int) ≤ idxFrom key i ks ∧ idxFrom key i ks < (i : Int) + (ks.length : Int)) := by
  induction ks generalizing i with
  | nil => exact .inl rfl
  | cons k ks ih =>
    rw [idxFrom]
    by_cases h : (k.toList == key.toList) = true
    · rw [if_pos h]; right; simp only [List.length_cons]; omega
    · rw [if_neg h]
      rcases ih (i + 1) with h' | ⟨h1, h2⟩
      · exact .inl h'
      · right; simp only [List.length_cons]; omega

theorem idx_bounds (ks : List ByteArray) (key : ByteArray) : -1 ≤ idx ks key ∧ idx ks key < (ks.length : Int) := by
  rcases idxFrom_bounds key ks 0 with h | ⟨h1, h2⟩
  · unfold idx; omega
  · unfold idx; omega

theorem idxFrom_append (key : ByteArray) (l1 l2 : List ByteArray) (i : Nat) : idxFrom key i (l1 ++ l2) = if 0 ≤ idxFrom key i l1 then idxFrom key i l1 else idxFrom key (i + l1.length) l2 := by
  induction l1 generalizing i with
  | nil => simp [idxFrom]
  | cons k ks ih =>
    rw [List.cons_append, idxFrom, idxFrom]
    by_cases h : (k.toList == key.toList) = true
    · rw [if_pos h, if_pos h, if_pos (by omega)]
    · rw [if_neg h, if_neg h, ih (i + 1), List.length_cons, show i + 1 + ks.length = i + (ks.length + 1) from by omega]

theorem idxFrom_shift (key : ByteArray) (l : List ByteArray) (i d : Nat) : idxFrom key (d + i) l = if 0 ≤ idxFrom key i l then (d : Int) + idxFrom key i l else -1 := by
  induction l generalizing i with
  | nil => simp [idxFrom]
  | cons k ks ih =>
    rw [idxFrom, idxFrom]
    by_cases h : (k.toList == key.toList) = true
    · rw [if_pos h, if_pos h, if_pos (by omega)]; omega
    · rw [if_neg h, if_neg h, show d + i + 1 = d + (i + 1) from by omega, ih (i + 1)]

theorem idx_append (key : ByteArray) (l1 l2 : List ByteArray) : idx (l1 ++ l2) key = if 0 ≤ idx l1 key then idx l1 key else if 0 ≤ idx l2 key then (l1.length : Int) + idx l2 key else -1 := by
  unfold idx
  rw [idxFrom_append, Nat.zero_add, show l1.length = l1.length + 0 from rfl, idxFrom_shift]
  rfl

theorem idx_cut (ks : List ByteArray) (key : ByteArray) (q : Nat) (hq : q ≤ ks.length) : idx ks key = if 0 ≤ idx (ks.take q) key then idx (ks.take q) key else if 0 ≤ idx (ks.drop q) key then (q : Int) + idx (ks.drop q) key else -1 := by
  have h := idx_append key (ks.take q) (ks.drop q)
  rw [List.take_append_drop, List.length_take, Nat.min_eq_left hq] at h
  exact h

/-- Where the answer is a place, that place holds the key. -/
theorem idxFrom_holds (key : ByteArray) (ks : List ByteArray) (i j : Nat) (h : idxFrom key i ks = ((i + j : Nat) : Int)) : j < ks.length ∧ ((ks.getD j ByteArray.empty).toList == key.toList) = true := by
  induction ks generalizing i j with
  | nil => simp [idxFrom] at h; omega
  | cons k ks ih =>
    rw [idxFrom] at h
    by_cases hk : (k.toList == key.toList) = true
    · rw [if_pos hk] at h
      obtain rfl : j = 0 := by omega
      exact ⟨by simp, by simpa using hk⟩
    · rw [if_neg hk] at h
      have hb := idxFrom_bounds key ks (i + 1)
      cases j with
      | zero => omega
      | succ j =>
        have := ih (i + 1) j (by rw [h]; omega)
        exact ⟨by simp only [List.length_cons]; omega, by simpa using this.2⟩
theorem idx_holds {key : ByteArray} {ks : List ByteArray} {j : Nat} (h : idx ks key = (j : Int)) : j < ks.length ∧ ((ks.getD j ByteArray.empty).toList == key.toList) = true :=
  idxFrom_holds key ks 0 j (by simpa [idx] using h)

theorem StrRow.take {w : World} {a : Option Addr} {ks : List ByteArray} (h : StrRow w a ks) (q : Nat) : StrRow w a (ks.take q) := by
  intro j hj
  simp only [List.length_take] at hj
  obtain ⟨b, off, e, hlt, hc⟩ := h j (by omega)
  refine ⟨b, off, e, hlt, ?_⟩
  rw [hc]
  have : j < q := by omega
  simp [this]
theorem StrRow.drop {w : World} {g off : Nat} {ks : List ByteArray} (h : StrRow w (some ⟨g, off, none⟩) ks) (q : Nat) (a' : Option Addr) (ha : q < ks.length → a' = some ⟨g, off + q, none⟩) : StrRow w a' (ks.drop q) := by
  intro j hj
  simp only [List.length_drop] at hj
  obtain ⟨b, o, e, hlt, hc⟩ := h (q + j) (by omega)
  simp only [Option.some.injEq, Addr.mk.injEq, and_true] at e
  obtain ⟨rfl, rfl⟩ := e
  refine ⟨g, off + q, ha (by omega), hlt, ?_⟩
  rw [Nat.add_assoc, hc]
  simp

end Go.Proofs.Qxb6618694a
