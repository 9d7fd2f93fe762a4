import Derived.Test.Qxb6619355aDoorSlx
import Derived.Laws.IdiomStrings
namespace Go.Proofs.Qxb6619355aDoor
open Go.RowKit

/-- What holds while the digits are being written from the right: i places are left, m is what is left of the number, ds the digits that stand. -/
structure DecInv (w : World) (n i m : Nat) (a : Int) (ds : List UInt8) (wr : World) : Prop where
  am : a = (m : Int)
  lt : m < 10 ^ i
  le : m ≤ n
  len : i + ds.length = 20
  dec : dec 20 n = dec i m ++ ds
  bel : Below w.heap.size w wr
  big : w.heap.size < wr.heap.size
  old : ∀ j, j < 20 → ∃ x, wr.cell? ⟨w.heap.size, j, none⟩ = some x
  fr : ∀ j, j < 20 → wr.frozen? ⟨w.heap.size, j, none⟩ = false
  put : ∀ j (hj : j < ds.length), wr.cell? ⟨w.heap.size, i + j, none⟩ = some (.int .u8 ((ds[j]'hj).toNat : Int))

theorem DecInv.step {w wr : World} {n i m : Nat} {a : Int} {ds : List UInt8} (h : DecInv w n (i + 1) m a ds wr) (hm : 0 < m) (v : Value) (hv : v = .int .u8 ((48 + m % 10 : Nat) : Int)) :
    DecInv w n i (m / 10) (a / 10) (UInt8.ofNat (48 + m % 10) :: ds) (wr.setCell ⟨w.heap.size, i, none⟩ v) := by
  have hlen := h.len
  obtain ⟨x, hx⟩ := h.old i (by omega)
  have hto : (UInt8.ofNat (48 + m % 10)).toNat = 48 + m % 10 := by
    rw [UInt8.toNat_ofNat']
    omega
  refine ⟨by rw [h.am]; omega, ?_, by have := h.le; omega, by simp only [List.length_cons]; omega, ?_, h.bel.setCell (Nat.le_refl _) _, by simpa using h.big, fun j hj => ?_, fun j hj => ?_, fun j hj => ?_⟩
  · have := h.lt
    rw [Nat.pow_succ] at this
    omega
  · rw [h.dec, Go.Proofs.Qxb6619355aDoor.dec, if_neg (by omega)]
    simp
  · obtain ⟨y, hy⟩ := h.old j hj
    exact cell?_setCell_some hy
  · rw [World.frozen?_setCell]; exact h.fr j hj
  · cases j with
    | zero =>
      simp only [Nat.add_zero, List.getElem_cons_zero]
      rw [World.cell?_setCell_same _ _ _ hx, hv, hto]
    | succ j =>
      simp only [List.getElem_cons_succ]
      rw [World.cell?_setCell_other wr (⟨w.heap.size, i, none⟩ : Addr) (⟨w.heap.size, i + (j + 1), none⟩ : Addr) v (by intro e; simp at e)]
      have := h.put j (by simpa using hj)
      rw [← this]
      congr 2
      omega

theorem slice20 (b i : Nat) (hi : i < 20) (w : World) :
    (Instr.sliceAt 32 (.pointer (some ⟨b, 0, none⟩)) (some (.int .i64 (i : Int))) none none).run Tryd.prog w = .ok (.slice (some ⟨b, i, none⟩) (20 - i) (20 - i)) w := by
  have hal : Tryd.prog.arrayLen 32 = 20 := by kernel_rfl
  have hel : Tryd.prog.elem 32 = 5 := by kernel_rfl
  have hu : Tryd.prog.underlying 32 = some (.array (Tryd.prog.arrayLen 32) (Tryd.prog.elem 32)) := by kernel_rfl
  have h := run_sliceAt_array_l w 32 ⟨b, 0, none⟩ hu .i64 (i : Int) (by omega) (by rw [hal]; omega)
  rw [h, hal, hel, Tryd.sizeOf5]
  have hne : ¬ 20 = i := by omega
  simp only [Result.andThen, slicedAt, Int.toNat_natCast, if_neg hne, Nat.mul_one]
  rw [WideShapes.add_plain, Nat.zero_add]

set_option maxHeartbeats 1000000 in
set_option maxRecDepth 100000 in
theorem dec_walk (n : Nat) (h0 : 0 < n) (hn : n ≤ 9223372036854775807) (w : World) :
    Calls Tryd.prog 8 #[.int .u64 n] w fun e w' => e = .returned (.string ⟨(text n).toArray⟩) ∧ Below w.heap.size w w' := by
  obtain ⟨z, hz⟩ : ∃ z : Int, z = (n : Int) := ⟨_, rfl⟩
  have hzb : 0 < z := by omega
  have hz0 : (z == 0) = false := beq_eq_false_iff_ne.2 (by omega)
  rw [← hz]
  have HZ := hide hz
  have HN := hide hn
  have HT := hide (show text n = dec 20 n by unfold text; rw [if_neg (by omega)])
  clear hz hn
  go_enter Tryd.func8, Tryd.ntmps8
  go_wp2
  go_loopw [0, 4] (fun s0 s4 wr => ∃ (i m : Nat) (a : Int) (ds : List UInt8), i ≤ 20 ∧ s4 = .int .i64 i ∧ s0 = .int .u64 a ∧ Hid (DecInv w n i m a ds wr)) (fun _ s4 _ => (intOf s4).toNat)
  case atStart =>
    refine ⟨20, n, z, [], Nat.le_refl _, rfl, rfl, HZ.out, by have := HN.out; omega, Nat.le_refl _, rfl, by simp, (Below.refl _ _).alloc (Nat.le_refl _) _, by simp, fun j hj => ?_, fun j hj => ?_, fun j hj => absurd hj (Nat.not_lt_zero _)⟩
    · rw [World.cell?_alloc_at _ _ _ _ rfl]
      exact ⟨_, Array.getElem?_eq_getElem (show j < 20 from hj)⟩
    · exact World.frozen?_alloc_at _ _ _ _ rfl
  case round =>
    obtain ⟨i, m, a, ds, hi, rfl, rfl, HI⟩ := hrel
    have ham := HI.out.am
    by_cases hm : 0 < m
    · obtain ⟨k, rfl⟩ : ∃ k, i = k + 1 := by
        cases i with
        | zero => have := HI.out.lt; simp at this; omega
        | succ k => exact ⟨k, rfl⟩
      obtain ⟨x, hx⟩ := HI.out.old k (by omega)
      have hfx := HI.out.fr k (by omega)
      have ha0 : 0 < a := by omega
      have ha1 : a ≤ 9223372036854775807 := by have := HI.out.le; have := HN.out; omega
      have hkz : (k : Int) < 20 := by omega
      have HM := hide ham
      clear ham
      go_wp2
      refine ⟨⟨k, m / 10, a / 10, UInt8.ofNat (48 + m % 10) :: ds, by omega, rfl, rfl, ?_⟩, by simp [intOf]⟩
      exact HI.out.step hm _ (by rw [HM.out]; exact congrArg (Value.int .u8) (by omega))
    · have hm0 : m = 0 := by omega
      have ha0 : ¬ 0 < a := by omega
      have hds : ds = dec 20 n := by rw [HI.out.dec, hm0, dec_zero, List.nil_append]
      have hlen := HI.out.len
      have hrun := run_convert_bytes_back (P := Tryd.prog) wr 33 9 5 ⟨w.heap.size, i, none⟩ (20 - i) ds Tryd.underlying33 Tryd.underlying5 Tryd.underlying9 (fun j hj => by rw [WideShapes.add_plain]; exact HI.out.put j hj)
      have hdl : ds.length = 20 - i := by omega
      rw [hdl] at hrun
      have hi19 : i < 20 := by
        refine Nat.lt_of_le_of_ne hi fun e => ?_
        subst e
        have : ds = [] := List.eq_nil_of_length_eq_zero (by omega)
        rw [this, dec, if_neg (by omega)] at hds
        simp at hds
      have hiz : (i : Int) < 20 := by omega
      have HDS := hide hds
      clear ham hm hm0 hds hdl hlen
      have hsl := slice20 w.heap.size i hi19 wr
      go_wp2_with fail
      go_ret
      refine ⟨?_, HI.out.bel⟩
      rw [HT.out, ← HDS.out]
      rfl

theorem decimalText (n : Nat) (hn : n ≤ 9223372036854775807) (w : World) :
    Calls Tryd.prog 8 #[.int .u64 n] w fun e w' => e = .returned (.string ⟨(text n).toArray⟩) ∧ Below w.heap.size w w' := by
  by_cases h0 : 0 < n
  · exact dec_walk n h0 hn w
  · obtain rfl : n = 0 := by omega
    go_enter Tryd.func8, Tryd.ntmps8
    go_wp2
    go_ret
    exact ⟨rfl, Below.refl _ _⟩
end Go.Proofs.Qxb6619355aDoor
