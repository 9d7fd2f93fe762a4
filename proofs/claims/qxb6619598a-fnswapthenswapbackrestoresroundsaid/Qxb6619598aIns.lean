import Derived.Test.Qxb6619598aSort2
namespace Go.Proofs.Qxb6619598a
open Go.RowKit Go.WideShapes

def insTo (ks : List ByteArray) (x : ByteArray) : Nat → List ByteArray × Bool
  | 0 => ([], false)
  | j + 1 => if (insTo ks x j).2 then ((insTo ks x j).1 ++ [sat ks j], true) else if Op.bytesLess x.toList (sat ks j).toList then ((insTo ks x j).1 ++ [x] ++ [sat ks j], true) else ((insTo ks x j).1 ++ [sat ks j], false)
def ins (ks : List ByteArray) (x : ByteArray) : List ByteArray := if (insTo ks x ks.length).2 then (insTo ks x ks.length).1 else (insTo ks x ks.length).1 ++ [x]

set_option maxHeartbeats 2000000 in
set_option maxRecDepth 100000 in
theorem insert_any (a : Option Addr) (n c : Nat) (ks : List ByteArray) (x : ByteArray) (w : World) (hn : n = ks.length) (hbig : n ≤ 1048576) (hk : Row w a (sv ks)) :
    Calls Try.prog 24 #[.slice a n c, .string x] w fun e w' => Built w w' (ins ks x) e := by
  obtain ⟨i0, hi, hz0, hz1, hz2⟩ := info_parts Try.info9
  have hb16 : i0.bytes * (n + 1) ≤ 281474976710656 := by rw [hz2]; omega
  have HN := hide hn
  have HK := hide hk
  clear hn hk
  go_enter Try.func24, Try.ntmps24
  go_wp2_with (at_make; refine wpList_make_own _ rfl _ _ 22 rfl w.heap.size 9 i0 _ 1 Try.underlying22 hi hz0 hz1 .i64 .i64 _ (n + 1) rfl rfl (by first | rfl | omega) hb16 (by unfold maxLen; omega) (Nat.le_refl _) ?_; intro w0 hown0 hgrow0)
  have HO := hide hown0
  have HT0 := hide ((Turns.refl [] w).grownNew hgrow0 (by simp))
  clear hown0 hgrow0
  go_loopw [5, 6, 7] (fun s5 s6 s7 wr => ∃ (j k : Nat) (p : Bool) (L : List ByteArray), j ≤ n ∧ k ≤ j + 1 ∧ (p = false → k ≤ j) ∧ s7 = .int .i64 j ∧ s6 = .bool p ∧ s5 = .slice (some ⟨w.heap.size, 0, none⟩) k (n + 1) ∧ Hid (insTo ks x j = (L, p)) ∧ Hid (k = L.length) ∧ Hid (wr.ownsRow w.heap.size 9 1 (.slice (some ⟨w.heap.size, 0, none⟩) k (n + 1)) k (sv L)) ∧ Hid (Turns [] w wr)) (fun _ _ s7 _ => n - (intOf s7).toNat)
  case atStart => exact ⟨0, 0, false, [], Nat.zero_le _, by omega, fun _ => by omega, rfl, rfl, rfl, hide rfl, hide rfl, HO, HT0⟩
  case round =>
    obtain ⟨j, k, p, L, hj, hkj, hkp, rfl, rfl, rfl, HIL, HKL, HOW, HT⟩ := hrel
    by_cases hlt : j < n
    · have hlz : (j : Int) < (n : Int) := by omega
      obtain ⟨b1, o1, rfl, hb1, hc1⟩ := HT.out.rowAll HK.out j _ (sv_get (by rw [← HN.out]; exact hlt))
      have HST := hide (show insTo ks x (j + 1) = if p then (L ++ [sat ks j], true) else if Op.bytesLess x.toList (sat ks j).toList then (L ++ [x] ++ [sat ks j], true) else (L ++ [sat ks j], false) by rw [insTo, HIL.out])
      generalize sat ks j = y at hc1 HST
      cases p with
      | true =>
        go_wp2_with (first | (at_builtin; refine wpList_append_fits _ rfl _ _ 22 rfl w.heap.size 9 i0 1 Try.underlying22 hi hz1 w.heap.size k (n + 1) (sv L) rfl (HOW.out.alloc _) ⟨wr.heap.size, 0, none⟩ 1 1 [.string y] rfl rfl (cell_one_new _ _ _) (by simp [Value.oneCell']) (by omega) ?_; intro w1 hown1 hgrow1) | go_in)
        have HO1 := hide hown1
        have HT1 := hide ((HT.out.alloc _).grownNew hgrow1 (by simp))
        clear hown1 hgrow1 HT HOW
        go_wp2_with fail
        go_roundw
        case rel =>
          refine ⟨j + 1, k + 1, true, L ++ [y], by omega, by omega, fun h => by simp at h, by go_num, rfl, rfl, hide (by rw [HST.out]; simp), hide (by have := HKL.out; simp; omega), ?_, HT1⟩
          rw [sv, List.map_append]; exact HO1
        case measure => simp [intOf]; omega
      | false =>
        have hkj' : k ≤ j := hkp rfl
        cases hq : (Op.bytesLess x.toList y.toList) with
        | true =>
          rw [hq] at HST
          have hcA : ∀ o w1, (wr.alloc o).grownBy w1 (some w.heap.size) → b1 < w.heap.size → w1.cell? ⟨b1, o1 + j, none⟩ = some (.string y) := fun o w1 hg hb => by
            rw [World.cell?_of_block (w := wr.alloc o) (hg.block b1 (by simp; omega) (by simp; omega)), World.cell?_of_block (w := wr) (Below.heap_alloc wr o b1 (by omega))]; exact hc1
          have HBW := hide (show b1 < w.heap.size from by
            obtain ⟨b2, o2, e2, h2, _⟩ := HK.out j _ (sv_get (by rw [← HN.out]; exact hlt))
            cases e2; exact h2)
          go_wp2_with (first
            | (at_builtin; refine wpList_append_fits _ rfl _ _ 22 rfl w.heap.size 9 i0 1 Try.underlying22 hi hz1 w.heap.size k (n + 1) (sv L) rfl (HOW.out.alloc _) ⟨wr.heap.size, 0, none⟩ 1 1 [.string x] rfl rfl (cell_one_new _ _ _) (by simp [Value.oneCell']) (by omega) ?_; intro w1 hown1 hgrow1; have hc2 := hcA _ _ hgrow1 HBW.out; have HO1 := hide hown1; have HT1 := hide ((HT.out.alloc _).grownNew hgrow1 (by simp)); clear hcA hown1 hgrow1 HT HOW hc1)
            | (at_builtin; refine wpList_append_fits _ rfl _ _ 22 rfl w.heap.size 9 i0 1 Try.underlying22 hi hz1 w.heap.size (k + 1) (n + 1) (sv L ++ [.string x]) rfl (HO1.out.alloc _) ⟨w1.heap.size, 0, none⟩ 1 1 [.string y] rfl rfl (cell_one_new _ _ _) (by simp [Value.oneCell']) (by omega) ?_; intro w2 hown2 hgrow2)
            | go_in)
          have HO2 := hide hown2
          have HT2 := hide ((HT1.out.alloc _).grownNew hgrow2 (by simp))
          clear hown2 hgrow2 HT1 HO1
          go_wp2_with fail
          go_roundw
          case rel =>
            refine ⟨j + 1, k + 1 + 1, true, L ++ [x] ++ [y], by omega, by omega, fun h => by simp at h, by go_num, rfl, rfl, hide (by rw [HST.out]; simp), hide (by have := HKL.out; simp; omega), ?_, HT2⟩
            rw [sv, List.map_append, List.map_append]; exact HO2
          case measure => simp [intOf]; omega
        | false =>
          rw [hq] at HST
          go_wp2_with (first | (at_builtin; refine wpList_append_fits _ rfl _ _ 22 rfl w.heap.size 9 i0 1 Try.underlying22 hi hz1 w.heap.size k (n + 1) (sv L) rfl (HOW.out.alloc _) ⟨wr.heap.size, 0, none⟩ 1 1 [.string y] rfl rfl (cell_one_new _ _ _) (by simp [Value.oneCell']) (by omega) ?_; intro w1 hown1 hgrow1) | go_in)
          have HO1 := hide hown1
          have HT1 := hide ((HT.out.alloc _).grownNew hgrow1 (by simp))
          clear hown1 hgrow1 HT HOW
          go_wp2_with fail
          go_roundw
          case rel =>
            refine ⟨j + 1, k + 1, false, L ++ [y], by omega, by omega, fun _ => by omega, by go_num, rfl, rfl, hide (by rw [HST.out]; simp), hide (by have := HKL.out; simp; omega), ?_, HT1⟩
            rw [sv, List.map_append]; exact HO1
          case measure => simp [intOf]; omega
    · have HE := hide (show insTo ks x ks.length = (L, p) from by have h1 := HN.out; rw [← HIL.out, show ks.length = j by omega])
      have hjn : j = n := by omega
      cases p with
      | true =>
        clear hj hjn
        go_wp2_with fail
        go_ret
        have e1 : ins ks x = L := by simp [ins, HE.out]
        rw [e1]
        exact ⟨w.heap.size, n + 1, Nat.le_refl _, by rw [← HKL.out]; rfl, HT.out, own_row HOW.out⟩
      | false =>
        have hkj' : k ≤ n := by have := hkp rfl; omega
        clear hj hjn
        go_wp2_with (first | (at_builtin; refine wpList_append_fits _ rfl _ _ 22 rfl w.heap.size 9 i0 1 Try.underlying22 hi hz1 w.heap.size k (n + 1) (sv L) rfl (HOW.out.alloc _) ⟨wr.heap.size, 0, none⟩ 1 1 [.string x] rfl rfl (cell_one_new _ _ _) (by simp [Value.oneCell']) (by omega) ?_; intro w1 hown1 hgrow1) | go_in)
        have HO1 := hide hown1
        have HT1 := hide ((HT.out.alloc _).grownNew hgrow1 (by simp))
        clear hown1 hgrow1 HT HOW
        go_wp2_with fail
        go_ret
        have e1 : ins ks x = L ++ [x] := by simp [ins, HE.out]
        rw [e1]
        refine ⟨w.heap.size, n + 1, Nat.le_refl _, ?_, HT1.out, ?_⟩
        · have := HKL.out
          rw [List.length_append, List.length_singleton, ← this]; rfl
        · rw [sv, List.map_append]; exact own_row HO1.out

end Go.Proofs.Qxb6619598a
