import Derived.Test.Qxb6617447aRows
import Derived.WalkKit
import Derived.WalkSpells
import Derived.WalkLawsBesides
import Derived.RegionTactic
import Derived.Deep.QuietTactic
import Derived.BigQuiet
namespace Go.Proofs.Qxb6617447a
open Go.RowKit

theorem hide {p : Prop} (h : p) : Hid p := h

/-- Can the byte open a character? -/
def rs (c : UInt8) : Bool := bits BinOp.and IntKind.u8 (c.toNat : Int) 192 != 128
/-- The name over the whole of b. -/
def nm (b random : ByteArray) : ByteArray := ⟨#[46]⟩ ++ b ++ ⟨#[46]⟩ ++ random ++ ⟨#[46, 116, 109, 112]⟩
/-- Where the cut at most k comes to. -/
def cutAt (base : ByteArray) : Nat → Nat
  | 0 => 0
  | k + 1 => if h : k + 1 < base.size then (if rs (base[k + 1]'h) then k + 1 else cutAt base k) else k + 1
/-- How many bytes of base are kept. -/
def kept (base random : ByteArray) (limit : Int) : Nat :=
  if (limit - ((random.size : Int) + 6)).toNat < base.size then cutAt base (limit - ((random.size : Int) + 6)).toNat else base.size

theorem cutAt_le (base : ByteArray) (k : Nat) : cutAt base k ≤ k := by
  induction k with
  | zero => exact Nat.le_refl _
  | succ k ih =>
    rw [cutAt]
    split
    · split
      · exact Nat.le_refl _
      · omega
    · exact Nat.le_refl _

set_option maxHeartbeats 400000 in
theorem runeStart_any (c : UInt8) (w : World) : Calls Try.prog 13 #[.int .u8 c.toNat] w fun e w' => e = .returned (.bool (rs c)) ∧ w' = w := by
  go_enter Try.func13, Try.ntmps13
  go_wp2
  go_ret
  exact ⟨rfl, rfl⟩
set_option maxHeartbeats 400000 in
theorem zzRuneStart_any (c : UInt8) (w : World) : Calls Try.prog 9 #[.int .u8 c.toNat] w fun e w' => e = .returned (.bool (rs c)) ∧ w' = w := by
  go_enter Try.func9, Try.ntmps9
  go_wp2
  go_ret
  exact ⟨rfl, rfl⟩

theorem extract_all (b : ByteArray) : b.extract 0 b.size = b := by
  simp

set_option maxHeartbeats 1000000 in
/-- The whole of base fits. -/
theorem temporary_whole (base random : ByteArray) (limit : Int) (hb : base.size ≤ 2097152) (hr : random.size ≤ 1048576) (hl : -1073741824 ≤ limit) (hl2 : limit ≤ 9223372036854775807)
    (h : base.size ≤ (limit - ((random.size : Int) + 6)).toNat) (w : World) :
    Calls Try.prog 12 #[.string base, .string random, .int .i64 limit] w fun e w' => e = .returned (.string (nm base random)) ∧ w' = w := by
  by_cases h0 : limit - ((random.size : Int) + 6) < 0
  · have hz : base.size = 0 := by omega
    have h1 : limit - (2 + (random.size : Int) + 4) < 0 := by omega
    have hnp : ¬ (0 : Int) < (base.size : Int) := by omega
    have hnq : ¬ 0 < base.size := by omega
    have HZ := hide hz
    clear hz h
    go_enter Try.func12, Try.ntmps12
    go_wp2
    go_ret
    exact ⟨rfl, rfl⟩
  · have h1 : ¬ limit - (2 + (random.size : Int) + 4) < 0 := by omega
    have h2 : (base.size : Int) ≤ limit - (2 + (random.size : Int) + 4) := by omega
    clear h
    go_enter Try.func12, Try.ntmps12
    go_wp2
    go_ret
    exact ⟨rfl, rfl⟩

set_option maxHeartbeats 1000000 in
/-- It is cut. -/
theorem temporary_cut (base random : ByteArray) (limit : Int) (m : Nat) (hb : base.size ≤ 2097152) (hr : random.size ≤ 1048576) (hl : -1073741824 ≤ limit) (hl2 : limit ≤ 9223372036854775807)
    (hm : m = (limit - ((random.size : Int) + 6)).toNat) (h : m < base.size) (w : World) :
    Calls Try.prog 12 #[.string base, .string random, .int .i64 limit] w fun e w' => e = .returned (.string (nm (base.extract 0 (cutAt base m)) random)) ∧ w' = w := by
  by_cases h0 : limit - ((random.size : Int) + 6) < 0
  · have hz : m = 0 := by omega
    have h1 : limit - (2 + (random.size : Int) + 4) < 0 := by omega
    subst hz
    have hnp : (0 : Int) < (base.size : Int) := by omega
    clear hm
    go_enter Try.func12, Try.ntmps12
    go_wp2
    refine wp_loop_rounds 1 ?_
    rw [rounds_succ]
    go_wp2
    go_ret
    refine ⟨?_, rfl⟩
    have e : nm (base.extract 0 (cutAt base 0)) random = ⟨#[46]⟩ ++ ⟨#[46]⟩ ++ random ++ ⟨#[46, 116, 109, 112]⟩ := by simp [nm, cutAt]
    rw [e]
    rfl
  · have h1 : ¬ limit - (2 + (random.size : Int) + 4) < 0 := by omega
    have h2 : limit - (2 + (random.size : Int) + 4) < (base.size : Int) := by omega
    have HM := hide (show limit - (2 + (random.size : Int) + 4) = (m : Int) by omega)
    clear hm
    go_enter Try.func12, Try.ntmps12
    go_wp2_with fail
    clear h0 h1 h2
    go_loop [7] (fun s7 => ∃ j : Nat, j ≤ m ∧ s7 = .int .i64 j ∧ Hid (cutAt base j = cutAt base m)) (fun s7 => (intOf s7).toNat)
    case atStart => exact ⟨m, Nat.le_refl _, by rw [HM.out], rfl⟩
    case round =>
      obtain ⟨j, hj, rfl, HC⟩ := hrel
      by_cases hj0 : j = 0
      · subst hj0
        go_wp2_with fail
        go_ret
        refine ⟨?_, rfl⟩
        have e : nm (base.extract 0 (cutAt base m)) random = ⟨#[46]⟩ ++ ⟨#[46]⟩ ++ random ++ ⟨#[46, 116, 109, 112]⟩ := by rw [← HC.out]; simp [nm, cutAt]
        rw [e]
        rfl
      · obtain ⟨k, rfl⟩ : ∃ k, j = k + 1 := ⟨j - 1, by omega⟩
        have hjp : (0 : Int) < (k : Int) + 1 := by omega
        have hjb : (k : Int) + 1 < (base.size : Int) := by omega
        have hjn : k + 1 < base.size := by omega
        have hcut : cutAt base (k + 1) = if rs (base[k + 1]'hjn) then k + 1 else cutAt base k := by rw [cutAt, dif_pos hjn]
        cases hq : rs (base[k + 1]'hjn) with
        | true =>
          have HC2 := hide (show cutAt base m = k + 1 by rw [← HC.out, hcut, if_pos hq])
          clear HC hcut
          go_wp2_with (go_at_call 13; refine (runeStart_any _ _).mono ?_; rintro e w' ⟨rfl, rfl⟩)
          go_ret
          refine ⟨?_, rfl⟩
          rw [HC2.out]
          rfl
        | false =>
          have HC2 := hide (show cutAt base k = cutAt base m by rw [← HC.out, hcut, if_neg (by simp [hq])])
          clear HC hcut
          go_wp2_with (go_at_call 13; refine (runeStart_any _ _).mono ?_; rintro e w' ⟨rfl, rfl⟩)
          go_round
          case rel => exact ⟨k, by omega, by go_num, HC2⟩
          case measure => simp [intOf]

theorem temporary_any (base random : ByteArray) (limit : Int) (hb : base.size ≤ 2097152) (hr : random.size ≤ 1048576) (hl : -1073741824 ≤ limit) (hl2 : limit ≤ 9223372036854775807) (w : World) :
    Calls Try.prog 12 #[.string base, .string random, .int .i64 limit] w fun e w' => e = .returned (.string (nm (base.extract 0 (kept base random limit)) random)) ∧ w' = w := by
  unfold kept
  by_cases h : (limit - ((random.size : Int) + 6)).toNat < base.size
  · rw [if_pos h]
    exact temporary_cut base random limit _ hb hr hl hl2 rfl h w
  · rw [if_neg h, extract_all]
    exact temporary_whole base random limit hb hr hl hl2 (by omega) w

set_option maxHeartbeats 400000 in
theorem zzTemporary_any (base random : ByteArray) (limit : Int) (hb : base.size ≤ 2097152) (hr : random.size ≤ 1048576) (hl : -1073741824 ≤ limit) (hl2 : limit ≤ 9223372036854775807) (w : World) :
    Calls Try.prog 7 #[.string base, .string random, .int .i64 limit] w fun e w' => e = .returned (.string (nm (base.extract 0 (kept base random limit)) random)) ∧ w' = w := by
  have hcall := temporary_any base random limit hb hr hl hl2 w
  go_enter Try.func7, Try.ntmps7
  go_wp2_with (go_at_call 12; refine hcall.mono ?_; rintro e w' ⟨rfl, rfl⟩)
  go_ret
  exact ⟨rfl, rfl⟩
end Go.Proofs.Qxb6617447a
