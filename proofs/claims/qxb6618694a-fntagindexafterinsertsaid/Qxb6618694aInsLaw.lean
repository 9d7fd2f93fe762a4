import Derived.Test.Qxb6618694aLaw
namespace Go.Proofs.Qxb6618694a
open Go.RowKit

theorem idx_cons (k : ByteArray) (l : List ByteArray) (key : ByteArray) : idx (k :: l) key = if k.toList == key.toList then 0 else if 0 ≤ idx l key then 1 + idx l key else -1 := by
  have h := idxFrom_shift key l 0 1
  unfold idx
  rw [idxFrom, Nat.zero_add]
  rw [show (1 : Nat) + 0 = 1 from rfl] at h
  rw [h]
  rfl

/-- The place of the key behind an insertion. -/
theorem idx_insert (ks : List ByteArray) (key ins : ByteArray) (p : Nat) (hp : p ≤ ks.length) :
    idx (ks.take p ++ ins :: ks.drop p) key = if 0 ≤ idx ks key ∧ idx ks key < (p : Int) then idx ks key else if ins.toList == key.toList then (p : Int) else if 0 ≤ idx ks key then idx ks key + 1 else -1 := by
  have h1 := idx_append key (ks.take p) (ins :: ks.drop p)
  have h2 := idx_cut ks key p hp
  have h3 := idx_cons ins (ks.drop p) key
  have b1 := idx_bounds (ks.take p) key
  have b2 := idx_bounds (ks.drop p) key
  have hl : ((ks.take p).length : Int) = (p : Int) := by rw [List.length_take, Nat.min_eq_left hp]
  rw [hl] at h1 b1
  generalize idx (ks.take p) key = A at *
  generalize idx (ks.drop p) key = D at *
  generalize idx (ins :: ks.drop p) key = C at *
  generalize idx (ks.take p ++ ins :: ks.drop p) key = r at *
  generalize idx ks key = o at *
  by_cases hq : (ins.toList == key.toList) = true
  · rw [if_pos hq] at h3 ⊢
    subst h3
    by_cases hA : 0 ≤ A
    · rw [if_pos hA] at h1 h2
      rw [if_pos (by omega)]; omega
    · rw [if_neg hA] at h1 h2
      rw [if_pos (by omega)] at h1
      by_cases hD : 0 ≤ D
      · rw [if_pos hD] at h2; rw [if_neg (by omega)]; omega
      · rw [if_neg hD] at h2; rw [if_neg (by omega)]; omega
  · rw [if_neg hq] at h3 ⊢
    by_cases hA : 0 ≤ A
    · rw [if_pos hA] at h1 h2
      rw [if_pos (by omega)]; omega
    · rw [if_neg hA] at h1 h2
      by_cases hD : 0 ≤ D
      · rw [if_pos hD] at h2 h3
        rw [if_pos (by omega)] at h1
        rw [if_neg (by omega), if_pos (by omega)]; omega
      · rw [if_neg hD] at h2 h3
        rw [if_neg (by omega)] at h1
        rw [if_neg (by omega), if_neg (by omega)]; omega

/-- The new row while it is being filled: a block of strings L. -/
def RowIs (w : World) (g : Nat) (L : List ByteArray) : Prop := w.heap[g]? = some (.cells (L.map Value.string).toArray 9 (0, 0))

theorem RowIs.cell {w : World} {g : Nat} {L : List ByteArray} (h : RowIs w g L) {i : Nat} (hi : i < L.length) : ∃ x, w.cell? ⟨g, i, none⟩ = some x ∧ w.frozen? ⟨g, i, none⟩ = false := by
  refine ⟨.string L[i], ?_, frozen_of_row w g i _ 9 h⟩
  rw [cell_of_row w g i _ 9 (0, 0) h]
  simp [hi]

theorem RowIs.set {w : World} {g : Nat} {L : List ByteArray} (h : RowIs w g L) (i : Nat) (k : ByteArray) : RowIs (w.setCell ⟨g, i, none⟩ (.string k)) g (L.set i k) := by
  unfold RowIs
  rw [heap_setCell_same w g i _ 9 (.string k) h]
  congr 2
  apply Array.ext'
  simp

theorem RowIs.strRow {w : World} {g : Nat} {L : List ByteArray} (h : RowIs w g L) : StrRow w (some ⟨g, 0, none⟩) L := row_block h

/-- A store into another block leaves a row of strings as it was. -/
theorem StrRow.setCell {w : World} {g g' i : Nat} {L : List ByteArray} (h : StrRow w (some ⟨g, 0, none⟩) L) (hne : g ≠ g') (v : Value) : StrRow (w.setCell ⟨g', i, none⟩ v) (some ⟨g, 0, none⟩) L := by
  intro j hj
  obtain ⟨b, off, e, hlt, hc⟩ := h j hj
  simp only [Option.some.injEq, Addr.mk.injEq, and_true] at e
  obtain ⟨rfl, rfl⟩ := e
  refine ⟨g, 0, rfl, by simpa using hlt, ?_⟩
  rw [World.cell?_of_block (w := w)]
  · exact hc
  · exact Below.heap_setCell _ _ _ _ hne

theorem rowIs_made {w : World} {B g n : Nat} (ho : w.ownsRow B 9 1 (.slice (some ⟨g, 0, none⟩) n n) n (madeCells (Value.string ByteArray.empty).cells (n * 1)).toList) : RowIs w g (List.replicate n ByteArray.empty) := by
  have h := own_block ho
  unfold RowIs
  rw [h]
  congr 2
  rw [show (Value.string ByteArray.empty).cells = #[Value.string ByteArray.empty] from rfl, Nat.mul_one, toList_madeCells_one]
  simp

/-- The finished row. -/
theorem grown_eq (ks L : List ByteArray) (ins : ByteArray) (p : Nat) (hp : p ≤ ks.length) (hl : L.length = ks.length + 1) (h1 : ∀ t, t < p → L.getD t ByteArray.empty = ks.getD t ByteArray.empty)
    (h2 : L.getD p ByteArray.empty = ins) (h3 : ∀ t, p ≤ t → t < ks.length → L.getD (t + 1) ByteArray.empty = ks.getD t ByteArray.empty) : L = ks.take p ++ ins :: ks.drop p := by
  apply List.ext_getElem
  · simp; omega
  · intro t g1 g2
    by_cases a : t < p
    · have := h1 t a
      rw [List.getElem_append_left (by simp; omega)]
      simp only [List.getD_eq_getElem?_getD] at this
      rw [List.getElem?_eq_getElem g1, List.getElem?_eq_getElem (by omega)] at this
      simpa using this
    · rw [List.getElem_append_right (by simp; omega)]
      by_cases b : t = p
      · subst b
        simp only [List.getD_eq_getElem?_getD] at h2
        rw [List.getElem?_eq_getElem g1] at h2
        simp only [List.length_take, Nat.min_eq_left hp, Nat.sub_self, List.getElem_cons_zero]
        simpa using h2
      · obtain ⟨s, rfl⟩ : ∃ s, t = s + 1 := ⟨t - 1, by omega⟩
        have := h3 s (by omega) (by omega)
        simp only [List.getD_eq_getElem?_getD] at this
        rw [List.getElem?_eq_getElem g1, List.getElem?_eq_getElem (by omega)] at this
        simp only [Option.getD_some] at this
        rw [this]
        simp only [List.length_take, Nat.min_eq_left hp]
        rw [List.getElem_cons]
        rw [dif_neg (by omega), List.getElem_drop]
        congr 1
        omega

end Go.Proofs.Qxb6618694a
