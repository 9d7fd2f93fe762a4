import Derived.Test.Qxb6618694aTag
namespace Go.Proofs.Qxb6618694a
open Go.RowKit

set_option maxHeartbeats 400000 in
theorem tagIndex_any (sb tb n c : Nat) (ks : List ByteArray) (key : ByteArray) (w : World) (hsb : sb < w.heap.size) (hs : w.cell? ⟨sb, 47, none⟩ = some (.slice (some ⟨tb, 0, none⟩) n c)) (hn : n = ks.length) (hbig : n ≤ 1048577) (ht : TagRow w tb ks) :
    Calls Try.prog 9 #[.pointer (some ⟨sb, 0, none⟩), .string key] w fun e w' => e = .returned (.int .i64 (idx ks key)) ∧ Below w.heap.size w w' := by
  have hc : ∀ o, (w.alloc o).cell? ⟨sb, 47, none⟩ = some (.slice (some ⟨tb, 0, none⟩) n c) := fun o => by rw [World.cell?_alloc_past]; exact hs; simpa using hsb
  have hcall := indexFunc_any tb n c w.heap.size ks key (w.alloc (.cells #[.string key] 9)) hn hbig (ht.below ((Below.refl _ _).alloc (Nat.le_refl _) _)) (by simp) (by simp)
  clear ht hn
  go_enter Try.func9, Try.ntmps9
  go_wp2_with (go_at_call 10; refine hcall.mono ?_; rintro e w' ⟨rfl, hb'⟩)
  go_ret
  exact ⟨rfl, ((Below.refl _ _).alloc (Nat.le_refl _) _).trans (hb'.mono (by simp))⟩

set_option maxHeartbeats 400000 in
theorem zzTagIndex_any (sb tb n c : Nat) (ks : List ByteArray) (key : ByteArray) (w : World) (hsb : sb < w.heap.size) (hs : w.cell? ⟨sb, 47, none⟩ = some (.slice (some ⟨tb, 0, none⟩) n c)) (hn : n = ks.length) (hbig : n ≤ 1048577) (ht : TagRow w tb ks) :
    Calls Try.prog 6 #[.pointer (some ⟨sb, 0, none⟩), .string key] w fun e w' => e = .returned (.int .i64 (idx ks key)) ∧ Below w.heap.size w w' := by
  have hcall := tagIndex_any sb tb n c ks key w hsb hs hn hbig ht
  clear ht hn hs
  go_enter Try.func6, Try.ntmps6
  go_wp2_with (go_at_call 9; refine hcall.mono ?_; rintro e w' ⟨rfl, hb'⟩)
  go_ret
  exact ⟨rfl, hb'⟩

theorem Try.info54 : (Try.prog.info? 54).map (fun i => (i.zero, i.size, i.bytes)) = some (some (.agg #[.string ByteArray.empty, .string ByteArray.empty]), 2, 32) := by kernel_rfl
theorem Try.info9 : (Try.prog.info? 9).map (fun i => (i.zero, i.size, i.bytes)) = some (some (.string ByteArray.empty), 1, 16) := by kernel_rfl

/-- What holds when the first j tags have been written. -/
def SpanInv (w : World) (sb n : Nat) (ks : List ByteArray) (j : Nat) (wr : World) : Prop :=
  Below w.heap.size w wr ∧ w.heap.size < sb ∧ sb < wr.heap.size ∧ wr.cell? ⟨sb, 47, none⟩ = some (.slice (some ⟨w.heap.size, 0, none⟩) n n) ∧
  ∃ xs, wr.ownsRow w.heap.size 54 2 (.slice (some ⟨w.heap.size, 0, none⟩) n n) n xs ∧ ∀ t, t < j → xs[t * 2]? = some (.string (ks.getD t ByteArray.empty)) ∧ xs[t * 2 + 1]? = some (.string ByteArray.empty)

theorem SpanInv.cells {w wr : World} {sb n j : Nat} {ks : List ByteArray} (h : SpanInv w sb n ks j wr) (hj : j < n) :
    ∃ x y, wr.cell? ⟨w.heap.size, j * 2, none⟩ = some x ∧ wr.cell? ⟨w.heap.size, j * 2 + 1, none⟩ = some y ∧ wr.frozen? ⟨w.heap.size, j * 2, none⟩ = false ∧ wr.frozen? ⟨w.heap.size, j * 2 + 1, none⟩ = false := by
  obtain ⟨_, _, _, _, xs, ho, _⟩ := h
  have hl := ho.1
  refine ⟨xs[j * 2]'(by omega), xs[j * 2 + 1]'(by omega), ?_, ?_, ho.frozenAt _, ho.frozenAt _⟩
  · rw [ho.cellAt _ (by omega)]; simp
  · rw [ho.cellAt _ (by omega)]; simp

theorem SpanInv.step {w wr : World} {sb n j : Nat} {ks : List ByteArray} (h : SpanInv w sb n ks j wr) (hj : j < n) {k : ByteArray} (hk : ks.getD j ByteArray.empty = k) :
    SpanInv w sb n ks (j + 1) ((wr.setCell ⟨w.heap.size, j * 2, none⟩ (.string k)).setCell ⟨w.heap.size, j * 2 + 1, none⟩ (.string ByteArray.empty)) := by
  obtain ⟨hb, h1, h2, h3, xs, ho, hx⟩ := h
  have hl := ho.1
  refine ⟨(hb.setCell (Nat.le_refl _) _).setCell (Nat.le_refl _) _, h1, by simpa using h2, ?_, _, (ho.stored _ _).1.stored _ _ |>.1, fun t ht => ?_⟩
  · rw [World.cell?_of_block (w := wr)]
    · exact h3
    · rw [Below.heap_setCell _ _ _ _ (by show sb ≠ w.heap.size; omega), Below.heap_setCell _ _ _ _ (by show sb ≠ w.heap.size; omega)]
  · by_cases e : t = j
    · subst e
      refine ⟨?_, ?_⟩
      · rw [List.getElem?_set_ne (by omega), List.getElem?_set_self (by omega), hk]
      · rw [List.getElem?_set_self (by simp; omega)]
    · refine ⟨?_, ?_⟩
      · rw [List.getElem?_set_ne (by omega), List.getElem?_set_ne (by omega)]; exact (hx t (by omega)).1
      · rw [List.getElem?_set_ne (by omega), List.getElem?_set_ne (by omega)]; exact (hx t (by omega)).2

theorem SpanInv.done {w wr : World} {sb n : Nat} {ks : List ByteArray} (h : SpanInv w sb n ks n wr) (hn : n = ks.length) : TagRow wr w.heap.size ks := by
  obtain ⟨hb, h1, h2, h3, xs, ho, hx⟩ := h
  refine ⟨by omega, fun t ht => ?_⟩
  rw [ho.cellAt _ (by omega), ho.cellAt _ (by omega)]
  exact hx t (by omega)

theorem SpanInv.drew {w wr : World} {sb n j : Nat} {ks : List ByteArray} (h : SpanInv w sb n ks j wr) : SpanInv w sb n ks j wr.drew :=
  ⟨h.1.drew, h.2.1, h.2.2.1, h.2.2.2.1, h.2.2.2.2⟩

set_option maxHeartbeats 1000000 in
theorem newSpan_any (b off n c : Nat) (ks : List ByteArray) (w : World) (hn : n = ks.length) (hbig : n ≤ 1048577) (hb : b < w.heap.size) (h0 : 0 < n) (hk : ∀ j, j < n → w.cell? ⟨b, off + j, none⟩ = some (.string (ks.getD j ByteArray.empty))) :
    Calls Try.prog 7 #[.slice (some ⟨b, off, none⟩) n c] w fun e w' => ∃ sb tb, e = .returned (.pointer (some ⟨sb, 0, none⟩)) ∧ Below w.heap.size w w' ∧ sb < w'.heap.size ∧ w'.cell? ⟨sb, 47, none⟩ = some (.slice (some ⟨tb, 0, none⟩) n n) ∧ TagRow w' tb ks := by
  obtain ⟨i0, hi, hz0, hz1, hz2⟩ := info_parts Try.info54
  have HN : Hid (n = ks.length) := hn
  have HK : Hid (∀ j, j < n → w.cell? ⟨b, off + j, none⟩ = some (.string (ks.getD j ByteArray.empty))) := hk
  have hb32 : i0.bytes * n ≤ 281474976710656 := by rw [hz2]; omega
  clear hn hk
  go_enter Try.func7, Try.ntmps7
  go_wp2_with (at_make; refine wpList_make_full _ rfl _ _ 29 rfl w.heap.size 54 i0 _ 2 Try.underlying29 hi hz0 hz1 _ _ _ _ n rfl rfl rfl rfl hb32 (by unfold maxLen; omega) (Nat.le_refl _) ?_; clear hz0 hz1 hz2 hb32 hi; intro w1 ho hg; have HO := hide ho; have HG := hide hg; clear ho hg)
  go_loopw [4, 12] (fun _ s12 wr => ∃ j : Nat, j ≤ n ∧ s12 = .int .i64 j ∧ Hid (SpanInv w w1.heap.size n ks j wr)) (fun _ s12 _ => n - (intOf s12).toNat)
  case atStart =>
    have hlt := (HO.out.lt w.heap.size rfl).2
    exact ⟨0, Nat.zero_le _, rfl, ((Below.refl _ _).grown HG.out (Nat.le_refl _) (by simp)).alloc (Nat.le_of_lt hlt) _, hlt, by simp, by simp, _, HO.out.alloc _, fun t ht => absurd ht (Nat.not_lt_zero _)⟩
  case round =>
    obtain ⟨j, hj, rfl, HI⟩ := hrel
    by_cases hlt : j < n
    · have hlz : (j : Int) < (n : Int) := by omega
      obtain ⟨x, y, c0, c1, f0, f1⟩ := HI.out.cells hlt
      have q := HI.out.2.2.2.1
      have qk : wr.cell? ⟨b, off + j, none⟩ = some (.string (ks.getD j ByteArray.empty)) := by rw [HI.out.1.cell (p := ⟨b, off + j, none⟩) hb]; exact HK.out j hlt
      generalize hy : ks.getD j ByteArray.empty = k at qk
      have HY := hide hy
      clear hy
      go_wp2
      go_region
      go_wp2
      go_roundw
      case rel => exact ⟨j + 1, by omega, by go_num, SpanInv.drew (HI.out.step hlt HY.out)⟩
      case measure => simp [intOf]; omega
    · have : j = n := by omega
      subst this
      go_wp2
      go_ret
      exact ⟨_, _, rfl, HI.out.1, HI.out.2.2.1, HI.out.2.2.2.1, HI.out.done HN.out⟩

set_option maxHeartbeats 1000000 in
theorem newSpan_zero (a : Option Addr) (c : Nat) (w : World) :
    Calls Try.prog 7 #[.slice a 0 c] w fun e w' => ∃ sb tb, e = .returned (.pointer (some ⟨sb, 0, none⟩)) ∧ Below w.heap.size w w' ∧ sb < w'.heap.size ∧ w'.cell? ⟨sb, 47, none⟩ = some (.slice (some ⟨tb, 0, none⟩) 0 0) ∧ TagRow w' tb [] := by
  obtain ⟨i0, hi, hz0, hz1, hz2⟩ := info_parts Try.info54
  go_enter Try.func7, Try.ntmps7
  go_wp2_with (at_make; refine wpList_make_full _ rfl _ _ 29 rfl w.heap.size 54 i0 _ 2 Try.underlying29 hi hz0 hz1 _ _ _ _ 0 rfl rfl rfl rfl (by simp) (by unfold maxLen; omega) (Nat.le_refl _) ?_; clear hz0 hz1 hz2 hi; intro w1 ho hg; have HO := hide ho; have HG := hide hg; clear ho hg)
  refine wp_loop_rounds 1 ?_
  rw [rounds_succ]
  go_wp2
  go_ret
  have hlt := (HO.out.lt w.heap.size rfl).2
  exact ⟨_, w.heap.size, rfl, ((Below.refl _ _).grown HG.out (Nat.le_refl _) (by simp)).alloc (Nat.le_of_lt hlt) _, by simp, by simp, by simp; omega, fun j hj => absurd hj (Nat.not_lt_zero _)⟩

/-- The strings 'ks' lie in a row from the address on (nothing is said of the address where there are none). -/
def StrRow (w : World) (a : Option Addr) (ks : List ByteArray) : Prop :=
  ∀ j, j < ks.length → ∃ b off, a = some ⟨b, off, none⟩ ∧ b < w.heap.size ∧ w.cell? ⟨b, off + j, none⟩ = some (.string (ks.getD j ByteArray.empty))

theorem StrRow.below {w w' : World} {a : Option Addr} {ks : List ByteArray} (h : StrRow w a ks) (hb : Below w.heap.size w w') : StrRow w' a ks := by
  intro j hj
  obtain ⟨b, off, e, hlt, hc⟩ := h j hj
  exact ⟨b, off, e, Nat.lt_of_lt_of_le hlt hb.size, by rw [hb.cell (p := ⟨b, off + j, none⟩) hlt]; exact hc⟩

theorem newSpan (a : Option Addr) (n c : Nat) (ks : List ByteArray) (w : World) (hn : n = ks.length) (hbig : n ≤ 1048577) (hk : StrRow w a ks) :
    Calls Try.prog 7 #[.slice a n c] w fun e w' => ∃ sb tb, e = .returned (.pointer (some ⟨sb, 0, none⟩)) ∧ Below w.heap.size w w' ∧ sb < w'.heap.size ∧ w'.cell? ⟨sb, 47, none⟩ = some (.slice (some ⟨tb, 0, none⟩) n n) ∧ TagRow w' tb ks := by
  cases ks with
  | nil => subst hn; exact newSpan_zero a c w
  | cons k ks =>
    obtain ⟨b, off, rfl, hlt, _⟩ := hk 0 (by simp)
    refine newSpan_any b off n c (k :: ks) w hn hbig hlt (by simp at hn; omega) (fun j hj => ?_)
    obtain ⟨b', off', e, _, hc⟩ := hk j (by omega)
    simp only [Option.some.injEq, Addr.mk.injEq, and_true] at e
    obtain ⟨rfl, rfl⟩ := e
    exact hc

end Go.Proofs.Qxb6618694a
