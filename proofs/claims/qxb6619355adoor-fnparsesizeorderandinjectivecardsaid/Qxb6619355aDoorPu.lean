import Derived.Test.Qxb6619355aDoorRows
import Derived.WalkKit
import Derived.WalkSpells
import Derived.WalkLawsBesides
import Derived.RegionTactic
import Derived.Lib.Strings
import Derived.Lib.ConvBytes
import Derived.Lib.SmallJoins
import Derived.Laws.Strings3
import Derived.Laws.Closers25
import Derived.Laws.Closers25b
import Derived.BigCall
import Derived.BigGuard
namespace Go.Proofs.Qxb6619355aDoor
open Go.RowKit

theorem hide {p : Prop} (h : p) : Hid p := h

/-- The number that a row of digits spells behind 'acc', as long as it stays at most M. -/
def pu (M acc : Nat) : List UInt8 → Option Nat
  | [] => some acc
  | c :: r => if 48 ≤ c.toNat ∧ c.toNat ≤ 57 then (if acc * 10 + (c.toNat - 48) ≤ M then pu M (acc * 10 + (c.toNat - 48)) r else none) else none

/-- What internal ParseUint hands back: the number and nil, or some number and an error that is not nil. -/
def Gives (o : Option Nat) (e : Ending) : Prop :=
  match o with
  | some n => e = .returned (.tuple #[.int .u64 (n : Int), .nilIface])
  | none => ∃ v c : Int, (c = 1 ∨ c = 2) ∧ e = .returned (.tuple #[.int .u64 v, .iface 35 (.int .i64 c)])

theorem gives_some {n : Nat} {e : Ending} {o : Option Nat} (h : o = some n) (he : e = .returned (.tuple #[.int .u64 (n : Int), .nilIface])) : Gives o e := by rw [h]; exact he
theorem gives_none {v c : Int} {e : Ending} {o : Option Nat} (h : o = none) (hc : c = 1 ∨ c = 2) (he : e = .returned (.tuple #[.int .u64 v, .iface 35 (.int .i64 c)])) : Gives o e := by rw [h]; exact ⟨v, c, hc, he⟩

set_option maxHeartbeats 400000 in
theorem lower_any (c : Int) (w : World) : Calls Tryd.prog 14 #[.int .u8 c] w fun e w' => e = .returned (.int .u8 (bits .or .u8 c 32)) ∧ w' = w := by
  go_enter Tryd.func14, Tryd.ntmps14
  go_wp2
  go_ret
  exact ⟨rfl, rfl⟩

set_option maxHeartbeats 4000000 in
set_option maxRecDepth 100000 in
theorem iparse_some (t : ByteArray) (hne : t.size ≠ 0) (hmax : t.size ≤ 1048576) (w : World) :
    Calls Tryd.prog 12 #[.string t, .int .i64 10, .int .i64 63] w fun e w' => Gives (pu 9223372036854775807 0 t.data.toList) e ∧ w' = Lib.bytesWorld w 5 t := by
  have hemp : t.toList.isEmpty = false := by
    rw [← decide_eq_emptyBytes]
    exact decide_eq_false (fun h => hne (by rw [h]; rfl))
  have hcv := Lib.run_convert_string_bytes (P := Tryd.prog) w 9 33 5 t (u := .string) Tryd.underlying9 Tryd.underlying33 Tryd.underlying5
  have hB : ∀ j, j < t.size → (Lib.bytesWorld w 5 t).cell? ⟨w.heap.size, j, none⟩ = some (.int .u8 (t.data.toList.getD j 0).toNat) := fun j hj => Lib.bytesWorld_cell w 5 t j hj
  obtain ⟨W1, hW1⟩ : ∃ W1, W1 = Lib.bytesWorld w 5 t := ⟨_, rfl⟩
  rw [← hW1] at hcv hB ⊢
  clear hW1
  obtain ⟨bs, hL⟩ : ∃ bs, bs = t.data.toList := ⟨_, rfl⟩
  have hLn : bs.length = t.size := by rw [hL]; simp
  rw [← hL] at hB ⊢
  clear hL
  have hmv : IntKind.u64.wrap (IntKind.u64.wrap 9223372036854775808 - 1) = 9223372036854775807 := by
    rw [IntKind.wrap_u64, IntKind.wrap_u64]
    decide
  go_enter Tryd.func12, Tryd.ntmps12
  go_wp2
  go_loop [12, 13, 101] (fun vu vn vi => ∃ (k acc : Nat) (a : Int), vu = .bool false ∧ vn = .int .u64 a ∧ vi = .int .i64 k ∧ k ≤ t.size ∧ Hid (a = (acc : Int) ∧ acc ≤ 9223372036854775807 ∧ pu 9223372036854775807 0 bs = pu 9223372036854775807 acc (bs.drop k)))
    (fun _ _ vi => t.size - (intOf vi).toNat)
  case atStart => exact ⟨0, 0, 0, rfl, rfl, rfl, by omega, rfl, by omega, rfl⟩
  case round =>
    obtain ⟨k, acc, a, rfl, rfl, rfl, hk, hh⟩ := hrel
    obtain ⟨ha, hacc, hdec⟩ := hh.out
    clear hh
    have a0 : 0 ≤ a := by omega
    have a1 : a ≤ 9223372036854775807 := by omega
    by_cases hkn : k < t.size
    · have hc := hB k hkn
      have hdrop : bs.drop k = bs[k]'(by omega) :: bs.drop (k + 1) := List.drop_eq_getElem_cons (by omega)
      have hget : bs.getD k 0 = bs[k]'(by omega) := by simp [List.getD, List.getElem?_eq_getElem (show k < bs.length by omega)]
      rw [hdrop] at hdec
      rw [hget] at hc
      generalize bs[k]'(by omega) = c at hc hdec
      have hc256 : c.toNat < 256 := c.toNat_lt
      clear hB hdrop hget
      by_cases hdig : 48 ≤ c.toNat ∧ c.toNat ≤ 57
      · by_cases hov : acc * 10 + (c.toNat - 48) ≤ 9223372036854775807
        · have hF : pu 9223372036854775807 acc (c :: bs.drop (k + 1)) = pu 9223372036854775807 (acc * 10 + (c.toNat - 48)) (bs.drop (k + 1)) := by rw [pu, if_pos hdig, if_pos hov]
          have HN : Hid (a * 10 + ((c.toNat : Int) - 48) = ((acc * 10 + (c.toNat - 48) : Nat) : Int) ∧ acc * 10 + (c.toNat - 48) ≤ 9223372036854775807 ∧ pu 9223372036854775807 0 bs = pu 9223372036854775807 (acc * 10 + (c.toNat - 48)) (bs.drop (k + 1))) := hide ⟨by omega, hov, hdec.trans hF⟩
          have icut : a < 1844674407370955162 := by omega
          have iov : a * 10 + ((c.toNat : Int) - 48) ≤ 9223372036854775807 := by omega
          obtain ⟨hd0, hd1⟩ := hdig
          clear hacc hF hov hdec ha
          go_wp2
          refine ⟨⟨k + 1, acc * 10 + (c.toNat - 48), a * 10 + ((c.toNat : Int) - 48), rfl, (by first | rfl | (congr 1; omega)), (by first | rfl | (congr 1; omega)), by omega, HN⟩, by simp [intOf]; omega⟩
        · have hF : pu 9223372036854775807 acc (c :: bs.drop (k + 1)) = none := by rw [pu, if_pos hdig, if_neg hov]
          have HD := hide (hdec.trans hF)
          obtain ⟨hd0, hd1⟩ := hdig
          by_cases hcut : 1844674407370955162 ≤ acc
          · have icut : 1844674407370955162 ≤ a := by omega
            clear hcut hacc hF hov hdec ha
            go_wp2
            go_ret2
            exact ⟨gives_none HD.out (.inl rfl) rfl, rfl⟩
          · have icut : a < 1844674407370955162 := by omega
            by_cases hwr : 18446744073709551616 ≤ acc * 10 + (c.toNat - 48)
            · have iov : 18446744073709551616 ≤ a * 10 + ((c.toNat : Int) - 48) := by omega
              have hwr2 : IntKind.u64.wrap (a * 10 + ((c.toNat : Int) - 48)) = a * 10 + ((c.toNat : Int) - 48) - 18446744073709551616 := by
                rw [IntKind.wrap_u64]
                omega
              clear hcut hacc hF hov hdec ha hwr
              go_wp2
              go_ret2
              exact ⟨gives_none HD.out (.inl rfl) rfl, rfl⟩
            · have iov : 9223372036854775807 < a * 10 + ((c.toNat : Int) - 48) := by omega
              have iov2 : a * 10 + ((c.toNat : Int) - 48) < 18446744073709551616 := by omega
              clear hcut hacc hF hov hdec ha hwr
              go_wp2
              go_ret2
              exact ⟨gives_none HD.out (.inl rfl) rfl, rfl⟩
      · have hF : pu 9223372036854775807 acc (c :: bs.drop (k + 1)) = none := by rw [pu, if_neg hdig]
        have HD := hide (hdec.trans hF)
        clear hacc hF ha hdec
        have hv0 := bits_lo_u8 .or (c.toNat : Int) 32
        have hv1 := bits_hi_u8 .or (c.toNat : Int) 32
        have hu0 := bits_lo_u8 .or 95 32
        have hu1 := bits_hi_u8 .or 95 32
        go_wp2_with (go_at_call 14; refine (lower_any _ _).mono ?_; rintro e w' ⟨rfl, rfl⟩)
        all_goals go_ret2
        all_goals exact ⟨gives_none HD.out (.inr rfl) rfl, rfl⟩
    · have hkk : k = t.size := by omega
      subst hkk
      have hF : pu 9223372036854775807 acc (bs.drop t.size) = some acc := by rw [List.drop_eq_nil_of_le (by omega)]; rfl
      have HD := hide (hdec.trans hF)
      subst ha
      clear hacc hF a0 a1 hdec
      go_wp2
      go_ret2
      exact ⟨gives_some HD.out rfl, rfl⟩

set_option maxHeartbeats 400000 in
set_option maxRecDepth 100000 in
theorem iparse_none (t : ByteArray) (h0 : t.size = 0) (w : World) :
    Calls Tryd.prog 12 #[.string t, .int .i64 10, .int .i64 63] w fun e w' => Gives none e ∧ w' = w := by
  have hemp : t.toList.isEmpty = true := by
    rw [← decide_eq_emptyBytes]
    exact decide_eq_true (ByteArray.size_eq_zero_iff.1 h0)
  clear h0
  go_enter Tryd.func12, Tryd.ntmps12
  go_wp2
  go_ret2
  exact ⟨gives_none rfl (.inr rfl) rfl, rfl⟩
end Go.Proofs.Qxb6619355aDoor
