import Derived.Test.Qxb6619598aRows
import Derived.WalkKit
import Derived.WalkSpells
import Derived.WalkLawsBesides
import Derived.RegionTactic
import Derived.Deep.QuietTactic
import Derived.BigQuiet
import Derived.Laws.CopyOwn
import Derived.OneCell
namespace Go.Proofs.Qxb6619598a
open Go.RowKit Go.WideShapes

theorem hide {p : Prop} (h : p) : Hid p := h
/-- It returns a bool, whichever. -/
def RetBool (e : Ending) : Prop := ∃ r, e = .returned (.bool r)

/-- It returns a bool; where it is true, p holds. -/
def RetIf (p : Prop) (e : Ending) : Prop := ∃ r, e = .returned (.bool r) ∧ (r = true → p)

/-- The values vs lie in a row from the address on (nothing is said of the address where there are none). -/
def Row (w : World) (a : Option Addr) (vs : List Value) : Prop :=
  ∀ j v, vs[j]? = some v → ∃ b off, a = some ⟨b, off, none⟩ ∧ b < w.heap.size ∧ w.cell? ⟨b, off + j, none⟩ = some v
theorem Row.below {w w' : World} {a : Option Addr} {vs : List Value} (h : Row w a vs) (hb : Below w.heap.size w w') : Row w' a vs := by
  intro j v hj
  obtain ⟨b, off, e, hlt, hc⟩ := h j v hj
  exact ⟨b, off, e, Nat.lt_of_lt_of_le hlt hb.size, by rw [hb.cell (p := ⟨b, off + j, none⟩) hlt]; exact hc⟩
theorem row_nil (w : World) (a : Option Addr) : Row w a [] := fun _ _ h => by simp at h
def sv (ks : List ByteArray) : List Value := ks.map Value.string
def iv (zs : List Int) : List Value := zs.map (Value.int .i64)
def bv (bs : List Bool) : List Value := bs.map Value.bool
def sat (ks : List ByteArray) (j : Nat) : ByteArray := ks.getD j ByteArray.empty
def iat (zs : List Int) (j : Nat) : Int := zs.getD j 0
def bat (bs : List Bool) (j : Nat) : Bool := bs.getD j false
theorem sv_len (ks : List ByteArray) : (sv ks).length = ks.length := by simp [sv]
theorem iv_len (ks : List Int) : (iv ks).length = ks.length := by simp [iv]
theorem bv_len (ks : List Bool) : (bv ks).length = ks.length := by simp [bv]
theorem sv_get {ks : List ByteArray} {j : Nat} (h : j < ks.length) : (sv ks)[j]? = some (.string (sat ks j)) := by simp [sv, sat, h]
theorem iv_get {ks : List Int} {j : Nat} (h : j < ks.length) : (iv ks)[j]? = some (.int .i64 (iat ks j)) := by simp [iv, iat, h]
theorem bv_get {ks : List Bool} {j : Nat} (h : j < ks.length) : (bv ks)[j]? = some (.bool (bat ks j)) := by simp [bv, bat, h]

/-- The first place that holds x; -1 where none does. -/
def idxFrom (x : ByteArray) : Nat → List ByteArray → Int
  | _, [] => -1
  | i, k :: ks => if k.toList == x.toList then (i : Int) else idxFrom x (i + 1) ks
def idx (ks : List ByteArray) (x : ByteArray) : Int := idxFrom x 0 ks
theorem idxFrom_hit (x : ByteArray) (ks : List ByteArray) (j : Nat) (i : Nat) (hj : j < ks.length) (h : ((sat ks j).toList == x.toList) = true)
    (hb : ∀ t, t < j → ((sat ks t).toList == x.toList) = false) : idxFrom x i ks = ((i + j : Nat) : Int) := by
  induction ks generalizing i j with
  | nil => simp at hj
  | cons k ks ih =>
    cases j with
    | zero => simp [sat] at h; simp [idxFrom, h]
    | succ j =>
      have h0 := hb 0 (by omega)
      simp only [sat, List.getD_cons_zero] at h0
      rw [idxFrom, if_neg (by simp [h0]), ih j (i + 1) (by simpa using hj) (by simpa [sat] using h) (fun t ht => by simpa [sat] using hb (t + 1) (by omega))]
      omega
theorem idxFrom_miss (x : ByteArray) (ks : List ByteArray) (i : Nat) (hb : ∀ t, t < ks.length → ((sat ks t).toList == x.toList) = false) : idxFrom x i ks = -1 := by
  induction ks generalizing i with
  | nil => rfl
  | cons k ks ih =>
    have h0 := hb 0 (by simp)
    simp only [sat, List.getD_cons_zero] at h0
    rw [idxFrom, if_neg (by simp [h0]), ih (i + 1) (fun t ht => by simpa [sat] using hb (t + 1) (by simpa using ht))]
theorem idx_hit {x : ByteArray} {ks : List ByteArray} {j : Nat} (hj : j < ks.length) (h : ((sat ks j).toList == x.toList) = true)
    (hb : ∀ t, t < j → ((sat ks t).toList == x.toList) = false) : idx ks x = (j : Int) := by
  have := idxFrom_hit x ks j 0 hj h hb; simpa [idx] using this
theorem idx_miss {x : ByteArray} {ks : List ByteArray} (hb : ∀ t, t < ks.length → ((sat ks t).toList == x.toList) = false) : idx ks x = -1 := idxFrom_miss x ks 0 hb

/-- Strictly increasing in byte order. -/
def inc (ks : List ByteArray) : Prop := ∀ j, j + 1 < ks.length → Op.bytesLess (sat ks j).toList (sat ks (j + 1)).toList = true

set_option maxHeartbeats 1000000 in
theorem indexOf_any (a : Option Addr) (n c : Nat) (ks : List ByteArray) (x : ByteArray) (w : World) (hn : n = ks.length) (hbig : n ≤ 1048576) (hk : Row w a (sv ks)) :
    Calls Try.prog 14 #[.slice a n c, .string x] w fun e w' => e = .returned (.int .i64 (idx ks x)) ∧ w' = w := by
  have HN := hide hn
  have HK := hide hk
  clear hn hk
  go_enter Try.func14, Try.ntmps14
  go_wp2
  go_loop [4, 5] (fun _ s5 => ∃ j : Nat, j ≤ n ∧ s5 = .int .i64 j ∧ Hid (∀ t, t < j → ((sat ks t).toList == x.toList) = false)) (fun _ s5 => n - (intOf s5).toNat)
  case atStart => exact ⟨0, Nat.zero_le _, rfl, fun t ht => absurd ht (Nat.not_lt_zero _)⟩
  case round =>
    obtain ⟨j, hj, rfl, HB⟩ := hrel
    by_cases hlt : j < n
    · have hlz : (j : Int) < (n : Int) := by omega
      obtain ⟨b, off, rfl, _, hc⟩ := HK.out j _ (sv_get (by rw [← HN.out]; exact hlt))
      generalize hy : sat ks j = y at hc
      have HY := hide hy
      clear hy
      cases hq : (y.toList == x.toList) with
      | true =>
        go_wp2
        go_ret
        refine ⟨?_, rfl⟩
        rw [idx_hit (j := j) (by rw [← HN.out]; exact hlt) (by rw [HY.out]; exact hq) HB.out]
        rfl
      | false =>
        go_wp2
        go_round
        case rel =>
          refine ⟨j + 1, by omega, by go_num, (show Hid _ from fun t ht => ?_)⟩
          by_cases e : t = j
          · subst e; rw [HY.out]; exact hq
          · exact HB.out t (by omega)
        case measure => simp [intOf]; omega
    · have : j = n := by omega
      subst this
      go_wp2
      go_ret
      refine ⟨?_, rfl⟩
      rw [idx_miss (fun t ht => HB.out t (by rw [HN.out]; exact ht))]
      rfl

set_option maxHeartbeats 1000000 in
theorem slicesIndex_any (a : Option Addr) (n c : Nat) (ks : List ByteArray) (x : ByteArray) (w : World) (hn : n = ks.length) (hbig : n ≤ 1048576) (hk : Row w a (sv ks)) :
    Calls Try.prog 41 #[.slice a n c, .string x] w fun e w' => e = .returned (.int .i64 (idx ks x)) ∧ w' = w := by
  have HN := hide hn
  have HK := hide hk
  clear hn hk
  go_enter Try.func41, Try.ntmps41
  go_wp2
  go_loop [4, 5, 8] (fun _ _ s8 => ∃ j : Nat, j ≤ n ∧ s8 = .int .i64 j ∧ Hid (∀ t, t < j → ((sat ks t).toList == x.toList) = false)) (fun _ _ s8 => n - (intOf s8).toNat)
  case atStart => exact ⟨0, Nat.zero_le _, rfl, fun t ht => absurd ht (Nat.not_lt_zero _)⟩
  case round =>
    obtain ⟨j, hj, rfl, HB⟩ := hrel
    by_cases hlt : j < n
    · have hlz : (j : Int) < (n : Int) := by omega
      obtain ⟨b, off, rfl, _, hc⟩ := HK.out j _ (sv_get (by rw [← HN.out]; exact hlt))
      generalize hy : sat ks j = y at hc
      have HY := hide hy
      clear hy
      cases hq : (x.toList == y.toList) with
      | true =>
        have hq' : (y.toList == x.toList) = true := by rw [beq_iff_eq] at hq ⊢; exact hq.symm
        have HQ := hide hq'
        clear hq'
        go_wp2
        go_ret
        refine ⟨?_, rfl⟩
        rw [idx_hit (j := j) (by rw [← HN.out]; exact hlt) (by rw [HY.out]; exact HQ.out) HB.out]
        rfl
      | false =>
        have hq' : (y.toList == x.toList) = false := by rw [beq_eq_false_iff_ne] at hq ⊢; exact fun h => hq h.symm
        have HQ := hide hq'
        clear hq'
        go_wp2
        go_round
        case rel =>
          refine ⟨j + 1, by omega, by go_num, (show Hid _ from fun t ht => ?_)⟩
          by_cases e : t = j
          · subst e; rw [HY.out]; exact HQ.out
          · exact HB.out t (by omega)
        case measure => simp [intOf]; omega
    · have : j = n := by omega
      subst this
      go_wp2
      go_ret
      refine ⟨?_, rfl⟩
      rw [idx_miss (fun t ht => HB.out t (by rw [HN.out]; exact ht))]
      rfl

set_option maxHeartbeats 1000000 in
theorem inRange_any (a : Option Addr) (n c : Nat) (zs : List Int) (w : World) (hn : n = zs.length) (hbig : n ≤ 1048576) (hk : Row w a (iv zs)) :
    Calls Try.prog 34 #[.slice a n c] w fun e w' => RetIf (∀ j, j < zs.length → -536870912 ≤ iat zs j ∧ iat zs j ≤ 536870912) e ∧ w' = w := by
  have HN := hide hn
  have HK := hide hk
  clear hn hk
  go_enter Try.func34, Try.ntmps34
  go_wp2
  go_loop [2, 3] (fun _ s3 => ∃ j : Nat, j ≤ n ∧ s3 = .int .i64 j ∧ Hid (∀ t, t < j → -536870912 ≤ iat zs t ∧ iat zs t ≤ 536870912)) (fun _ s3 => n - (intOf s3).toNat)
  case atStart => exact ⟨0, Nat.zero_le _, rfl, fun t ht => absurd ht (Nat.not_lt_zero _)⟩
  case round =>
    obtain ⟨j, hj, rfl, HB⟩ := hrel
    by_cases hlt : j < n
    · have hlz : (j : Int) < (n : Int) := by omega
      obtain ⟨b, off, rfl, _, hc⟩ := HK.out j _ (iv_get (by rw [← HN.out]; exact hlt))
      generalize hy : iat zs j = y at hc
      have HY := hide hy
      clear hy
      by_cases h1 : y < -536870912
      · go_wp2
        go_ret
        exact ⟨⟨false, rfl, by simp⟩, rfl⟩
      · by_cases h2 : 536870912 < y
        · go_wp2
          go_ret
          exact ⟨⟨false, rfl, by simp⟩, rfl⟩
        · have HH := hide (show -536870912 ≤ y ∧ y ≤ 536870912 by omega)
          go_wp2
          go_round
          case rel =>
            refine ⟨j + 1, by omega, by go_num, (show Hid _ from fun t ht => ?_)⟩
            by_cases e : t = j
            · subst e; rw [HY.out]; exact HH.out
            · exact HB.out t (by omega)
          case measure => simp [intOf]; omega
    · have : j = n := by omega
      subst this
      go_wp2
      go_ret
      exact ⟨⟨true, rfl, fun _ t ht => HB.out t (by rw [HN.out]; exact ht)⟩, rfl⟩

set_option maxHeartbeats 1000000 in
theorem increasing_any (a : Option Addr) (n c : Nat) (ks : List ByteArray) (w : World) (hn : n = ks.length) (hbig : n ≤ 1048576) (hk : Row w a (sv ks)) :
    Calls Try.prog 33 #[.slice a n c] w fun e w' => RetIf (inc ks) e ∧ Below w.heap.size w w' := by
  have HN := hide hn
  have HK := hide hk
  clear hn hk
  go_enter Try.func33, Try.ntmps33
  go_wp2
  go_loopw [2, 3] (fun _ s3 wr => ∃ j : Nat, (j ≤ n ∨ j = 1) ∧ 1 ≤ j ∧ s3 = .int .i64 j ∧ Hid (Below w.heap.size w wr) ∧ Hid (∀ t, t + 1 < j → Op.bytesLess (sat ks t).toList (sat ks (t + 1)).toList = true)) (fun _ s3 _ => n - (intOf s3).toNat)
  case atStart => exact ⟨1, .inr rfl, Nat.le_refl _, rfl, Below.refl _ _, fun t ht => absurd ht (by omega)⟩
  case round =>
    obtain ⟨j, hj, hj1, rfl, HW, HB⟩ := hrel
    by_cases hlt : j < n
    · have hlz : (j : Int) < (n : Int) := by omega
      obtain ⟨k, rfl⟩ : ∃ k, j = k + 1 := ⟨j - 1, by omega⟩
      have hkz : (k : Int) < (n : Int) := by omega
      have HKW := hide (HK.out.below HW.out)
      obtain ⟨b, off, rfl, _, hc⟩ := HKW.out k _ (sv_get (by rw [← HN.out]; omega))
      obtain ⟨b', off', e', _, hc'⟩ := HKW.out (k + 1) _ (sv_get (by rw [← HN.out]; omega))
      simp only [Option.some.injEq, Addr.mk.injEq, and_true] at e'
      obtain ⟨rfl, rfl⟩ := e'
      generalize hy : sat ks k = y at hc
      generalize hy' : sat ks (k + 1) = y' at hc'
      have HY := hide hy
      have HY' := hide hy'
      clear hy hy'
      cases hq : Op.bytesLess y.toList y'.toList with
      | true =>
        go_wp2
        go_region
        go_wp2
        go_roundw
        case rel =>
          refine ⟨k + 2, .inl (by omega), by omega, by go_num, HW.out.drew, (show Hid _ from fun t ht => ?_)⟩
          by_cases e : t = k
          · subst e; rw [HY.out, HY'.out]; exact hq
          · exact HB.out t (by omega)
        case measure => simp [intOf]; omega
      | false =>
        go_wp2
        go_region
        go_wp2
        go_ret
        exact ⟨⟨false, rfl, by simp⟩, HW.out.drew⟩
    · go_wp2
      go_ret
      exact ⟨⟨true, rfl, fun _ t ht => HB.out t (by have := HN.out; omega)⟩, HW.out⟩

end Go.Proofs.Qxb6619598a
