import Derived.Test.Qxb6618694aRows
import Derived.WalkKit
import Derived.WalkSpells
import Derived.WalkLawsBesides
import Derived.RegionTactic
namespace Go.Proofs.Qxb6618694a
open Go.RowKit

theorem hide {p : Prop} (h : p) : Hid p := h

/-- The first place that holds 'key', counted from 'i' on; -1 where none does. -/
def idxFrom (key : ByteArray) : Nat → List ByteArray → Int
  | _, [] => -1
  | i, k :: ks => if k.toList == key.toList then (i : Int) else idxFrom key (i + 1) ks
def idx (ks : List ByteArray) (key : ByteArray) : Int := idxFrom key 0 ks

theorem idxFrom_hit (key : ByteArray) (ks : List ByteArray) (j : Nat) (i : Nat) (hj : j < ks.length) (h : ((ks.getD j ByteArray.empty).toList == key.toList) = true)
    (hb : ∀ t, t < j → ((ks.getD t ByteArray.empty).toList == key.toList) = false) : idxFrom key i ks = ((i + j : Nat) : Int) := by
  induction ks generalizing i j with
  | nil => simp at hj
  | cons k ks ih =>
    cases j with
    | zero => simp at h; simp [idxFrom, h]
    | succ j =>
      have h0 := hb 0 (by omega)
      simp only [List.getD_cons_zero] at h0
      rw [idxFrom, if_neg (by simp [h0]), ih j (i + 1) (by simpa using hj) (by simpa using h) (fun t ht => by simpa using hb (t + 1) (by omega))]
      omega
theorem idxFrom_miss (key : ByteArray) (ks : List ByteArray) (i : Nat) (hb : ∀ t, t < ks.length → ((ks.getD t ByteArray.empty).toList == key.toList) = false) : idxFrom key i ks = -1 := by
  induction ks generalizing i with
  | nil => rfl
  | cons k ks ih =>
    have h0 := hb 0 (by simp)
    simp only [List.getD_cons_zero] at h0
    rw [idxFrom, if_neg (by simp [h0]), ih (i + 1) (fun t ht => by simpa using hb (t + 1) (by simpa using ht))]
theorem idx_hit {key : ByteArray} {ks : List ByteArray} {j : Nat} (hj : j < ks.length) (h : ((ks.getD j ByteArray.empty).toList == key.toList) = true)
    (hb : ∀ t, t < j → ((ks.getD t ByteArray.empty).toList == key.toList) = false) : idx ks key = (j : Int) := by
  have := idxFrom_hit key ks j 0 hj h hb; simpa [idx] using this
theorem idx_miss {key : ByteArray} {ks : List ByteArray} (hb : ∀ t, t < ks.length → ((ks.getD t ByteArray.empty).toList == key.toList) = false) : idx ks key = -1 := idxFrom_miss key ks 0 hb

set_option maxHeartbeats 400000 in
theorem clo_any (k v key : ByteArray) (kb : Nat) (w : World) (hkb : kb < w.heap.size) (h : w.cell? ⟨kb, 0, none⟩ = some (.string key)) :
    Calls Try.prog 11 #[.agg #[.string k, .string v], .pointer (some ⟨kb, 0, none⟩)] w fun e w' => e = .returned (.bool (k.toList == key.toList)) ∧ Below w.heap.size w w' := by
  have hc : ∀ o, (w.alloc o).cell? ⟨kb, 0, none⟩ = some (.string key) := fun o => by rw [World.cell?_alloc_past]; exact h; simpa using hkb
  go_enter Try.func11, Try.ntmps11
  go_wp2
  go_ret
  exact ⟨rfl, (Below.refl _ _).alloc (Nat.le_refl _) _⟩

/-- A row of tags: the keys 'ks', each with the empty value, lies in block tb of w. -/
def TagRow (w : World) (tb : Nat) (ks : List ByteArray) : Prop :=
  tb < w.heap.size ∧ ∀ j, j < ks.length → w.cell? ⟨tb, j * 2, none⟩ = some (.string (ks.getD j ByteArray.empty)) ∧ w.cell? ⟨tb, j * 2 + 1, none⟩ = some (.string ByteArray.empty)
theorem TagRow.below {w w' : World} {tb : Nat} {ks : List ByteArray} (h : TagRow w tb ks) (hb : Below w.heap.size w w') : TagRow w' tb ks := by
  refine ⟨Nat.lt_of_lt_of_le h.1 hb.size, fun j hj => ?_⟩
  rw [hb.cell (p := ⟨tb, j * 2, none⟩) h.1, hb.cell (p := ⟨tb, j * 2 + 1, none⟩) h.1]
  exact h.2 j hj

set_option maxHeartbeats 400000 in
theorem indexFunc_any (tb n c kb : Nat) (ks : List ByteArray) (key : ByteArray) (w : World) (hn : n = ks.length) (hbig : n ≤ 1048577) (ht : TagRow w tb ks) (hkb : kb < w.heap.size) (h : w.cell? ⟨kb, 0, none⟩ = some (.string key)) :
    Calls Try.prog 10 #[.slice (some ⟨tb, 0, none⟩) n c, .func (.func 11) #[] #[.pointer (some ⟨kb, 0, none⟩)]] w fun e w' => e = .returned (.int .i64 (idx ks key)) ∧ Below w.heap.size w w' := by
  have HT : Hid (TagRow w tb ks) := ht
  have HK : Hid (w.cell? ⟨kb, 0, none⟩ = some (.string key)) := h
  clear ht h
  have HN : Hid (n = ks.length) := hn
  clear hn
  go_enter Try.func10, Try.ntmps10
  go_wp2
  go_loopw [5, 8] (fun _ s8 wr => ∃ j : Nat, j ≤ n ∧ s8 = .int .i64 j ∧ Hid (Below w.heap.size w wr) ∧ Hid (∀ t, t < j → ((ks.getD t ByteArray.empty).toList == key.toList) = false)) (fun _ s8 _ => n - (intOf s8).toNat)
  case atStart => exact ⟨0, Nat.zero_le _, rfl, Below.refl _ w, fun j hj => absurd hj (Nat.not_lt_zero _)⟩
  case round =>
    obtain ⟨j, hj, rfl, BW, HB⟩ := hrel
    by_cases hlt : j < n
    · have hlz : (j : Int) < (n : Int) := by omega
      have hr := (HT.out.2 j (by rw [← HN.out]; exact hlt))
      have q0 : wr.cell? ⟨tb, j * 2, none⟩ = some (.string (ks.getD j ByteArray.empty)) := by rw [BW.out.cell (p := ⟨tb, j * 2, none⟩) HT.out.1]; exact hr.1
      have q1 : wr.cell? ⟨tb, j * 2 + 1, none⟩ = some (.string ByteArray.empty) := by rw [BW.out.cell (p := ⟨tb, j * 2 + 1, none⟩) HT.out.1]; exact hr.2
      clear hr
      have hcall := clo_any (ks.getD j ByteArray.empty) ByteArray.empty key kb wr (Nat.lt_of_lt_of_le hkb BW.out.size) (by rw [BW.out.cell (p := ⟨kb, 0, none⟩) hkb]; exact HK.out)
      generalize hy : ks.getD j ByteArray.empty = y at q0 hcall
      have HY : Hid (ks.getD j ByteArray.empty = y) := hy
      clear hy
      cases hq : (y.toList == key.toList) with
      | true =>
        rw [hq] at hcall
        go_wp2_with (go_at_call 11; refine hcall.mono ?_; rintro e w' ⟨rfl, hb'⟩)
        go_ret
        refine ⟨?_, BW.out.trans (hb'.mono BW.out.size)⟩
        rw [idx_hit (j := j) (by rw [← HN.out]; exact hlt) (by rw [HY.out]; exact hq) HB.out]
        rfl
      | false =>
        rw [hq] at hcall
        go_wp2_with (go_at_call 11; refine hcall.mono ?_; rintro e w' ⟨rfl, hb'⟩)
        go_roundw
        case rel =>
          refine ⟨j + 1, by omega, by go_num, BW.out.trans (hb'.mono BW.out.size), (show Hid _ from fun t ht => ?_)⟩
          by_cases e : t = j
          · subst e; rw [HY.out]; exact hq
          · exact HB.out t (by omega)
        case measure => simp [intOf]; omega
    · have : j = n := by omega
      subst this
      go_wp2
      go_ret
      refine ⟨?_, BW.out⟩
      rw [idx_miss (fun t ht => HB.out t (by rw [HN.out]; exact ht))]
      rfl

end Go.Proofs.Qxb6618694a
