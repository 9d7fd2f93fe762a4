import Derived.Test.Qxb6619355aDoorCan
import Derived.Test.Qxb6619355aDoorDec
namespace Go.Proofs.Qxb6619355aDoor
open Go.RowKit

/-- It returns a bool, whichever. -/
def RetBool (e : Ending) : Prop := ∃ r, e = .returned (.bool r)

set_option maxHeartbeats 400000 in
theorem bytes1 (a : ByteArray) (w : World) : Calls Tryd.prog 5 #[.string a] w fun e w' => RetBool e ∧ w' = w := by
  go_enter Tryd.func5, Tryd.ntmps5
  go_wp2
  all_goals (go_ret; exact ⟨⟨_, rfl⟩, rfl⟩)
set_option maxHeartbeats 400000 in
theorem bytes2 (a b : ByteArray) (w : World) : Calls Tryd.prog 9 #[.string a, .string b] w fun e w' => RetBool e ∧ w' = w := by
  go_enter Tryd.func9, Tryd.ntmps9
  go_wp2
  all_goals (go_ret; exact ⟨⟨_, rfl⟩, rfl⟩)

theorem text_bytes {t : ByteArray} {n : Nat} (h : size t.data.toList = some n) : (⟨(text n).toArray⟩ : ByteArray) = t := by
  obtain ⟨hc, hv, hm⟩ := size_some h
  have hl := canon_max hc (by omega)
  rw [hv, text_val hc (by omega)]

set_option maxHeartbeats 1000000 in
theorem exact_walk (t : ByteArray) (w : World) (hs : Sent w) :
    Calls Tryd.prog 3 #[.string t] w fun e w' => e = .returned (.bool true) ∧ Below w.heap.size w w' := by
  have hB := bytes1 t w
  have HS := hide hs
  clear hs
  go_enter Tryd.func3, Tryd.ntmps3
  go_wp2_with fail
  refine hB.mono ?_
  rintro e w' ⟨⟨r, rfl⟩, hw'⟩
  subst hw'
  clear hB
  cases r with
  | false =>
    go_wp2_with fail
    go_ret
    exact ⟨rfl, Below.refl _ _⟩
  | true =>
    go_wp2_with fail
    · go_ret
      exact ⟨rfl, Below.refl _ _⟩
    have g1 : (t.size : Int) ≤ 1048576 := by assumption
    refine (parseSize t (by omega) w' HS.out).mono ?_
    rintro e w1 ⟨he, hb1⟩
    have hcan := canonical t w1
    have HB1 := hide hb1
    clear hb1 HS
    cases ho : size t.data.toList with
    | none =>
      rw [ho] at he hcan
      obtain rfl : e = .returned (.tuple #[.int .u64 0, .bool false]) := he
      clear ho
      go_wp2_with fail
      refine hcan.mono ?_
      rintro e w2 ⟨rfl, hb2⟩
      have HB2 := hide (HB1.out.trans (hb2.mono HB1.out.size))
      clear hb2 HB1 hcan
      go_wp2_with fail
      go_ret
      exact ⟨rfl, HB2.out⟩
    | some n =>
      rw [ho] at he hcan
      obtain rfl : e = .returned (.tuple #[.int .u64 (n : Int), .bool true]) := he
      have htx := text_bytes ho
      have hle : n ≤ 9223372036854775807 := (size_some ho).2.2
      have hdec := fun W => decimalText n hle W
      rw [htx] at hdec
      obtain ⟨z, hz⟩ : ∃ z : Int, z = (n : Int) := ⟨_, rfl⟩
      have hzb : z ≤ 9223372036854775807 := by omega
      rw [← hz] at hdec ⊢
      clear ho htx hle hz
      go_wp2_with fail
      refine hcan.mono ?_
      rintro e w2 ⟨rfl, hb2⟩
      have HB2 := hide (HB1.out.trans (hb2.mono HB1.out.size))
      clear hb2 HB1 hcan
      go_wp2_with fail
      refine (hdec _).mono ?_
      rintro e w3 ⟨rfl, hb3⟩
      have HB3 := hide (HB2.out.trans (hb3.mono HB2.out.size))
      clear hb3 HB2 hdec
      go_wp2_with fail
      go_ret
      exact ⟨by simp, HB3.out⟩

theorem order_some {a b : ByteArray} {na nb : Nat} (ha : size a.data.toList = some na) (hb : size b.data.toList = some nb) :
    slx a.data.toList b.data.toList = decide (na < nb) ∧ (na = nb ↔ a = b) := by
  obtain ⟨ca, va, ma⟩ := size_some ha
  obtain ⟨cb, vb, mb⟩ := size_some hb
  have la := canon_max ca (by omega)
  have lb := canon_max cb (by omega)
  refine ⟨by rw [slx_val ca cb, va, vb], fun h => ?_, fun h => ?_⟩
  · have := val_inj ca cb (by omega) (by omega) (by omega)
    rw [← text_bytes ha, ← text_bytes hb, h]
  · subst h
    rw [ha] at hb
    exact Option.some.inj hb

theorem toList_ne {a b : ByteArray} (h : a ≠ b) : (a.toList == b.toList) = false := by
  rw [beq_eq_false_iff_ne]
  intro e
  apply h
  rw [Lib.toList_data, Lib.toList_data] at e
  cases a; cases b
  simp only [ByteArray.mk.injEq]
  exact Array.ext' e

set_option maxHeartbeats 2000000 in
theorem order_walk (a b : ByteArray) (w : World) (hs : Sent w) :
    Calls Tryd.prog 4 #[.string a, .string b] w fun e w' => e = .returned (.bool true) ∧ Below w.heap.size w w' := by
  have hB := bytes2 a b w
  have HS := hide hs
  clear hs
  go_enter Tryd.func4, Tryd.ntmps4
  go_wp2_with fail
  refine hB.mono ?_
  rintro e w' ⟨⟨r, rfl⟩, hw'⟩
  subst hw'
  clear hB
  cases r with
  | false =>
    go_wp2_with fail
    go_ret
    exact ⟨rfl, Below.refl _ _⟩
  | true =>
    go_wp2_with fail
    all_goals first
      | (go_ret; exact ⟨rfl, Below.refl _ _⟩)
      | skip
    have g1 : (a.size : Int) ≤ 524288 := by assumption
    have g2 : (b.size : Int) ≤ 524288 := by assumption
    refine (parseSize a (by omega) w' HS.out).mono ?_
    rintro e w1 ⟨hea, hb1⟩
    have hpb := parseSize b (by omega) w1 (HS.out.below hb1)
    have HCA := hide (fun W => canonical a W)
    have HCB := hide (fun W => canonical b W)
    have HSL := hide (fun W => shortlex a b (by omega) W)
    have HB1 := hide hb1
    clear hb1 HS
    cases hoa : size a.data.toList with
    | none =>
      rw [hoa] at hea HCA
      obtain rfl : e = .returned (.tuple #[.int .u64 0, .bool false]) := hea
      clear hoa
      go_wp2_with fail
      refine hpb.mono ?_
      rintro e w2 ⟨heb, hb2⟩
      have HB2 := hide (HB1.out.trans (hb2.mono HB1.out.size))
      clear hb2 HB1 hpb
      cases hob : size b.data.toList with
      | none =>
        rw [hob] at heb HCB
        obtain rfl : e = .returned (.tuple #[.int .u64 0, .bool false]) := heb
        clear hob
        go_wp2_with fail
        refine (HCA.out _).mono ?_
        rintro e w3 ⟨rfl, hb3⟩
        have HB3 := hide (HB2.out.trans (hb3.mono HB2.out.size))
        clear hb3 HB2
        go_wp2_with fail
        refine (HCB.out _).mono ?_
        rintro e w4 ⟨rfl, hb4⟩
        have HB4 := hide (HB3.out.trans (hb4.mono HB3.out.size))
        clear hb4 HB3
        go_wp2_with fail
        go_ret
        exact ⟨rfl, HB4.out⟩
      | some n =>
        rw [hob] at heb HCB
        obtain rfl : e = .returned (.tuple #[.int .u64 (n : Int), .bool true]) := heb
        clear hob
        go_wp2_with fail
        refine (HCA.out _).mono ?_
        rintro e w3 ⟨rfl, hb3⟩
        have HB3 := hide (HB2.out.trans (hb3.mono HB2.out.size))
        clear hb3 HB2
        go_wp2_with fail
        refine (HCB.out _).mono ?_
        rintro e w4 ⟨rfl, hb4⟩
        have HB4 := hide (HB3.out.trans (hb4.mono HB3.out.size))
        clear hb4 HB3
        go_wp2_with fail
        go_ret
        exact ⟨rfl, HB4.out⟩
    | some na =>
      rw [hoa] at hea HCA
      obtain rfl : e = .returned (.tuple #[.int .u64 (na : Int), .bool true]) := hea
      go_wp2_with fail
      refine hpb.mono ?_
      rintro e w2 ⟨heb, hb2⟩
      have HB2 := hide (HB1.out.trans (hb2.mono HB1.out.size))
      clear hb2 HB1 hpb
      cases hob : size b.data.toList with
      | none =>
        rw [hob] at heb HCB
        obtain rfl : e = .returned (.tuple #[.int .u64 0, .bool false]) := heb
        clear hob hoa
        go_wp2_with fail
        refine (HCA.out _).mono ?_
        rintro e w3 ⟨rfl, hb3⟩
        have HB3 := hide (HB2.out.trans (hb3.mono HB2.out.size))
        clear hb3 HB2
        go_wp2_with fail
        refine (HCB.out _).mono ?_
        rintro e w4 ⟨rfl, hb4⟩
        have HB4 := hide (HB3.out.trans (hb4.mono HB3.out.size))
        clear hb4 HB3
        go_wp2_with fail
        go_ret
        exact ⟨rfl, HB4.out⟩
      | some nb =>
        rw [hob] at heb HCB
        obtain rfl : e = .returned (.tuple #[.int .u64 (nb : Int), .bool true]) := heb
        have hor := order_some hoa hob
        rw [hor.1] at HSL
        have HQ := hide hor.2
        clear hor hob hoa
        go_wp2_with fail
        refine (HCA.out _).mono ?_
        rintro e w3 ⟨rfl, hb3⟩
        have HB3 := hide (HB2.out.trans (hb3.mono HB2.out.size))
        clear hb3 HB2
        go_wp2_with fail
        refine (HCB.out _).mono ?_
        rintro e w4 ⟨rfl, hb4⟩
        have HB4 := hide (HB3.out.trans (hb4.mono HB3.out.size))
        clear hb4 HB3 HCA HCB
        go_wp2_with fail
        refine (HSL.out _).mono ?_
        rintro e w5 ⟨rfl, hb5⟩
        have HB5 := hide (HB4.out.trans (hb5.mono HB4.out.size))
        clear hb5 HB4 HSL
        by_cases e : na = nb
        · have hab := HQ.out.1 e
          subst hab
          subst e
          go_wp2_with fail
          go_ret
          exact ⟨by simp, HB5.out⟩
        · have hne : (a.toList == b.toList) = false := toList_ne fun h => e (HQ.out.2 h)
          have hnez : ((na : Int) == (nb : Int)) = false := beq_eq_false_iff_ne.2 (by omega)
          clear HQ
          go_wp2_with fail
          go_ret
          exact ⟨by simp, HB5.out⟩

end Go.Proofs.Qxb6619355aDoor
