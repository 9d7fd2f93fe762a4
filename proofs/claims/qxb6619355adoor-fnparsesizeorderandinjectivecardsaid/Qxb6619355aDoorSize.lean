import Derived.Test.Qxb6619355aDoorErr
namespace Go.Proofs.Qxb6619355aDoor
open Go.RowKit

/-- The two sentinels' variables hold errors. -/
def Sent (w : World) : Prop := (∃ te pe, w.cell? ⟨0, 0, none⟩ = some (.iface te pe)) ∧ (∃ te pe, w.cell? ⟨1, 0, none⟩ = some (.iface te pe))
theorem Sent.below {w w' : World} (h : Sent w) (hb : Below w.heap.size w w') : Sent w' := by
  obtain ⟨⟨te, pe, h0⟩, ⟨te', pe', h1⟩⟩ := h
  exact ⟨⟨te, pe, by rw [hb.cell (p := ⟨0, 0, none⟩) (lt_of_cell h0)]; exact h0⟩, ⟨te', pe', by rw [hb.cell (p := ⟨1, 0, none⟩) (lt_of_cell h1)]; exact h1⟩⟩

/-- What the bytes spell: a row of digits, not empty, of a number at most 2^63 - 1. -/
def spell (l : List UInt8) : Option Nat := if l = [] then none else pu 9223372036854775807 0 l

theorem iparse (t : ByteArray) (hmax : t.size ≤ 1048576) (w : World) :
    Calls Tryd.prog 12 #[.string t, .int .i64 10, .int .i64 63] w fun e w' => Gives (spell t.data.toList) e ∧ Below w.heap.size w w' := by
  by_cases h0 : t.size = 0
  · have : t.data.toList = [] := by
      have : t.data.toList.length = 0 := by simpa using h0
      exact List.eq_nil_of_length_eq_zero this
    rw [this]
    exact (iparse_none t h0 w).mono fun e w' ⟨h1, h2⟩ => ⟨h1, by rw [h2]; exact Below.refl _ _⟩
  · have : spell t.data.toList = pu 9223372036854775807 0 t.data.toList := by
      unfold spell
      rw [if_neg]
      intro h
      exact h0 (by have := congrArg List.length h; simpa using this)
    rw [this]
    exact (iparse_some t h0 hmax w).mono fun e w' ⟨h1, h2⟩ => ⟨h1, by rw [h2]; exact Joins.below_bytesWorld _ _ _ _ (Nat.le_refl _)⟩

/-- What the public ParseUint hands back. -/
def Gives2 (o : Option Nat) (e : Ending) : Prop :=
  match o with
  | some n => e = .returned (.tuple #[.int .u64 (n : Int), .nilIface])
  | none => ∃ (v : Int) (N : Nat), e = .returned (.tuple #[.int .u64 v, .iface 38 (.pointer (some ⟨N, 0, none⟩))])

set_option maxHeartbeats 1000000 in
theorem parseUint (t : ByteArray) (hmax : t.size ≤ 1048576) (w : World) (hs : Sent w) :
    Calls Tryd.prog 11 #[.string t, .int .i64 10, .int .i64 63] w fun e w' => Gives2 (spell t.data.toList) e ∧ Below w.heap.size w w' := by
  have hcall := iparse t hmax w
  cases ho : spell t.data.toList with
  | some n =>
    rw [ho] at hcall
    clear hs ho
    go_enter Tryd.func11, Tryd.ntmps11
    go_wp2_with fail
    refine hcall.mono ?_
    rintro e w1 ⟨he, hb⟩
    obtain rfl : e = .returned (.tuple #[.int .u64 (n : Int), .nilIface]) := he
    go_wp2_with fail
    go_ret2
    exact ⟨rfl, hb⟩
  | none =>
    rw [ho] at hcall
    clear ho
    have HS := hide hs
    clear hs
    go_enter Tryd.func11, Tryd.ntmps11
    go_wp2_with fail
    refine hcall.mono ?_
    rintro e w1 ⟨he, hb⟩
    obtain ⟨v, c, hc, rfl⟩ : ∃ v c : Int, (c = 1 ∨ c = 2) ∧ e = .returned (.tuple #[.int .u64 v, .iface 35 (.int .i64 c)]) := he
    obtain ⟨⟨te, pe, h0⟩, ⟨te', pe', h1⟩⟩ := HS.out.below hb
    have hto := fun fn a b => toErr fn t te te' pe pe' a b c hc w1 (by omega) h0 h1
    clear h0 h1 HS hcall hc
    go_wp2_with fail
    refine (hto _ _ _).mono ?_
    rintro e w2 ⟨N, rfl, hb2⟩
    go_wp2_with fail
    go_ret2
    exact ⟨⟨v, N, rfl⟩, hb.trans (hb2.mono hb.size)⟩

/-- What ParseSize hands back. -/
def size (l : List UInt8) : Option Nat := if 1 < l.length ∧ l.head? = some 48 then none else spell l
def Gives3 (o : Option Nat) (e : Ending) : Prop :=
  match o with
  | some n => e = .returned (.tuple #[.int .u64 (n : Int), .bool true])
  | none => e = .returned (.tuple #[.int .u64 0, .bool false])

theorem head_get (t : ByteArray) (h : 0 < t.size) : t.data.toList.head? = some (t[0]'h) := by
  have h' : 0 < t.data.toList.length := by simpa using h
  rw [List.head?_eq_getElem?, List.getElem?_eq_getElem h']
  rfl

set_option maxHeartbeats 1000000 in
theorem parseSize (t : ByteArray) (hmax : t.size ≤ 1048576) (w : World) (hs : Sent w) :
    Calls Tryd.prog 6 #[.string t] w fun e w' => Gives3 (size t.data.toList) e ∧ Below w.heap.size w w' := by
  have hcall := parseUint t hmax w hs
  clear hs
  cases ho : spell t.data.toList with
  | none =>
    have hz : size t.data.toList = none := by unfold size; split <;> simp_all
    rw [hz]
    rw [ho] at hcall
    clear ho hz
    go_enter Tryd.func6, Tryd.ntmps6
    go_wp2_with fail
    refine hcall.mono ?_
    rintro e w1 ⟨he, hb⟩
    obtain ⟨v, N, rfl⟩ : ∃ (v : Int) (N : Nat), e = .returned (.tuple #[.int .u64 v, .iface 38 (.pointer (some ⟨N, 0, none⟩))]) := he
    clear hcall
    go_wp2_with fail
    go_ret2
    exact ⟨rfl, hb⟩
  | some n =>
    rw [ho] at hcall
    by_cases h1 : 1 < t.size
    · have h1z : (1 : Int) < (t.size : Int) := by omega
      have h0z : (0 : Int) < (t.size : Int) := by omega
      have h0 : 0 < t.size := by omega
      have hh := head_get t h0
      have hl : t.data.toList.length = t.size := by simp
      cases hq : (((t[0]'h0).toNat : Int) == 48) with
      | true =>
        have hz : size t.data.toList = none := by
          unfold size
          rw [if_pos]
          refine ⟨by omega, ?_⟩
          rw [hh]
          have : (t[0]'h0).toNat = 48 := by have := beq_iff_eq.1 hq; omega
          rw [show (t[0]'h0) = 48 from UInt8.toNat_inj.1 this]
        rw [hz]
        clear ho hz hh hl
        go_enter Tryd.func6, Tryd.ntmps6
        go_wp2_with fail
        refine hcall.mono ?_
        rintro e w1 ⟨he, hb⟩
        obtain rfl : e = .returned (.tuple #[.int .u64 (n : Int), .nilIface]) := he
        clear hcall
        go_wp2_with fail
        go_ret2
        exact ⟨rfl, hb⟩
      | false =>
        have hz : size t.data.toList = some n := by
          unfold size
          rw [if_neg, ho]
          rintro ⟨_, h⟩
          rw [hh] at h
          have : t[0]'h0 = 48 := by simpa using h
          rw [this] at hq
          exact absurd hq (by decide)
        rw [hz]
        clear ho hz hh hl
        go_enter Tryd.func6, Tryd.ntmps6
        go_wp2_with fail
        refine hcall.mono ?_
        rintro e w1 ⟨he, hb⟩
        obtain rfl : e = .returned (.tuple #[.int .u64 (n : Int), .nilIface]) := he
        clear hcall
        go_wp2_with fail
        go_ret2
        exact ⟨rfl, hb⟩
    · have h1z : ¬ (1 : Int) < (t.size : Int) := by omega
      have hz : size t.data.toList = some n := by
        unfold size
        rw [if_neg, ho]
        rintro ⟨h, _⟩
        simp at h
        omega
      rw [hz]
      clear ho hz
      go_enter Tryd.func6, Tryd.ntmps6
      go_wp2_with fail
      refine hcall.mono ?_
      rintro e w1 ⟨he, hb⟩
      obtain rfl : e = .returned (.tuple #[.int .u64 (n : Int), .nilIface]) := he
      clear hcall
      go_wp2_with fail
      go_ret2
      exact ⟨rfl, hb⟩

end Go.Proofs.Qxb6619355aDoor
