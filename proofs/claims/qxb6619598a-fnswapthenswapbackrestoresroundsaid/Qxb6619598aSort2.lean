import Derived.Test.Qxb6619598aShift
namespace Go.Proofs.Qxb6619598a
open Go.RowKit Go.WideShapes

theorem Turns.grownNew {S : List Nat} {a b c : World} {r : Option Nat} (h : Turns S a b) (hg : b.grownBy c r) (hr : ∀ k, r = some k → a.heap.size ≤ k) : Turns S a c :=
  ⟨hg.os.trans h.os, hg.tape.trans h.tape, hg.output.trans h.output, Nat.le_trans h.size hg.size, fun k hk hn => (hg.block k (Nat.lt_of_lt_of_le hk h.size) (fun e => by have := hr k e.symm; omega)).trans (h.block k hk hn)⟩
theorem own_row {w : World} {B g n c e : Nat} {xs : List Value} (ho : w.ownsRow B e 1 (.slice (some ⟨g, 0, none⟩) n c) n xs) : Row w (some ⟨g, 0, none⟩) xs := by
  rcases ho.2 with ⟨h', _⟩ | ⟨g', cap', cur, h', _, hg, _, _, hs, htake⟩
  · simp at h'
  · simp only [Value.slice.injEq, Option.some.injEq, Addr.mk.injEq, and_true, true_and] at h'
    obtain ⟨rfl, rfl⟩ := h'
    intro j v hj
    refine ⟨g, 0, rfl, (Array.getElem?_eq_some_iff.1 hg).1, ?_⟩
    have h1 : (cur.toList.take (n * 1))[j]? = some v := by rw [htake]; exact hj
    have hlt : j < n * 1 := by
      have h2 := (List.getElem?_eq_some_iff.1 h1).1
      simp at h2; omega
    rw [List.getElem?_take_of_lt hlt] at h1
    rw [Nat.zero_add]
    exact Blk.cell (w := w) (k := g) (t := e) (cs := cur) hg (by simpa using h1)

def wo (ks : List ByteArray) (x : ByteArray) : List ByteArray := ks.filter fun k => !(k.toList == x.toList)
theorem wo_step (ks : List ByteArray) (x : ByteArray) (j : Nat) (hj : j < ks.length) : wo (ks.take (j + 1)) x = wo (ks.take j) x ++ (if (sat ks j).toList == x.toList then [] else [sat ks j]) := by
  have e : sat ks j = ks[j] := by simp [sat, hj]
  rw [List.take_succ_eq_append_getElem hj, wo, List.filter_append, e]
  simp only [wo]
  cases h : (ks[j].toList == x.toList) <;> simp [h]
theorem wo_len (ks : List ByteArray) (x : ByteArray) (j : Nat) : (wo (ks.take j) x).length ≤ j := Nat.le_trans (List.length_filter_le _ _) (by simp; omega)

/-- What a call hands back that builds a slice of strings of its own. -/
def Built (w w' : World) (L : List ByteArray) (e : Ending) : Prop := ∃ g c, w.heap.size ≤ g ∧ e = .returned (.slice (some ⟨g, 0, none⟩) L.length c) ∧ Turns [] w w' ∧ Row w' (some ⟨g, 0, none⟩) (sv L)

set_option maxHeartbeats 2000000 in
set_option maxRecDepth 100000 in
theorem without_any (a : Option Addr) (n c : Nat) (ks : List ByteArray) (x : ByteArray) (w : World) (hn : n = ks.length) (hbig : n ≤ 1048576) (hk : Row w a (sv ks)) :
    Calls Try.prog 25 #[.slice a n c, .string x] w fun e w' => Built w w' (wo ks x) e := by
  obtain ⟨i0, hi, hz0, hz1, hz2⟩ := info_parts Try.info9
  have hb16 : i0.bytes * n ≤ 281474976710656 := by rw [hz2]; omega
  have HN := hide hn
  have HK := hide hk
  clear hn hk
  go_enter Try.func25, Try.ntmps25
  go_wp2_with (at_make; refine wpList_make_own _ rfl _ _ 22 rfl w.heap.size 9 i0 _ 1 Try.underlying22 hi hz0 hz1 .i64 .i64 _ n rfl rfl (by first | rfl | omega) hb16 (by unfold maxLen; omega) (Nat.le_refl _) ?_; intro w0 hown0 hgrow0)
  have HO := hide hown0
  have HT0 := hide ((Turns.refl [] w).grownNew hgrow0 (by simp))
  clear hown0 hgrow0
  go_loopw [5, 6] (fun s5 s6 wr => ∃ j k : Nat, j ≤ n ∧ k ≤ j ∧ s6 = .int .i64 j ∧ s5 = .slice (some ⟨w.heap.size, 0, none⟩) k n ∧ Hid (k = (wo (ks.take j) x).length) ∧ Hid (wr.ownsRow w.heap.size 9 1 (.slice (some ⟨w.heap.size, 0, none⟩) k n) k (sv (wo (ks.take j) x))) ∧ Hid (Turns [] w wr)) (fun _ s6 _ => n - (intOf s6).toNat)
  case atStart => exact ⟨0, 0, Nat.zero_le _, Nat.le_refl _, rfl, rfl, hide rfl, HO, HT0⟩
  case round =>
    obtain ⟨j, k, hj, hkj, rfl, rfl, HKL, HOW, HT⟩ := hrel
    by_cases hlt : j < n
    · have hlz : (j : Int) < (n : Int) := by omega
      obtain ⟨b1, o1, rfl, _, hc1⟩ := HT.out.rowAll HK.out j _ (sv_get (by rw [← HN.out]; exact hlt))
      have HST := hide (wo_step ks x j (by rw [← HN.out]; exact hlt))
      generalize sat ks j = y at hc1 HST
      cases hq : (y.toList == x.toList) with
      | true =>
        rw [hq] at HST
        go_wp2_with fail
        go_roundw
        case rel =>
          have he : wo (ks.take (j + 1)) x = wo (ks.take j) x := by rw [HST.out]; simp
          refine ⟨j + 1, k, by omega, by omega, by go_num, rfl, ?_, ?_, HT⟩
          · rw [he]; exact HKL
          · rw [he]; exact HOW
        case measure => simp [intOf]; omega
      | false =>
        rw [hq] at HST
        go_wp2_with (first | (at_builtin; refine wpList_append_fits _ rfl _ _ 22 rfl w.heap.size 9 i0 1 Try.underlying22 hi hz1 w.heap.size k n (sv (wo (ks.take j) x)) rfl (HOW.out.alloc _) ⟨wr.heap.size, 0, none⟩ 1 1 [.string y] rfl rfl (cell_one_new _ _ _) (by simp [Value.oneCell']) (by omega) ?_; intro w1 hown1 hgrow1) | go_in)
        have HO1 := hide hown1
        have HT1 := hide ((HT.out.alloc _).grownNew hgrow1 (by simp))
        clear hown1 hgrow1 HT HOW
        go_wp2_with fail
        go_roundw
        case rel =>
          have he : wo (ks.take (j + 1)) x = wo (ks.take j) x ++ [y] := by rw [HST.out]; simp
          refine ⟨j + 1, k + 1, by omega, by omega, by go_num, rfl, ?_, ?_, HT1⟩
          · have := HKL.out; rw [he]; exact hide (by simp; omega)
          · rw [he, sv, List.map_append]; exact HO1
        case measure => simp [intOf]; omega
    · have HE := hide (show ks.take j = ks from List.take_of_length_le (by have := HN.out; omega))
      rw [HE.out] at HKL HOW
      clear hj
      go_wp2_with fail
      go_ret
      exact ⟨w.heap.size, n, Nat.le_refl _, by rw [← HKL.out]; rfl, HT.out, own_row HOW.out⟩

end Go.Proofs.Qxb6619598a
