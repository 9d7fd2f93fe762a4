import Derived.Test.Qxb6619598aState
import Derived.Deep.OwnRows
import Derived.Deep.Cut
import Derived.Deep.DeepCutAuto
import Derived.Maps.Own
import Derived.Maps.OwnOps
import Derived.Maps.Views
namespace Go.Proofs.Qxb6619598a
open Go.RowKit Go.WideShapes Go.Maps Go.WideMaps

theorem run_makeMap_hint (n : Nat) (w : World) : (Instr.makeMap 27 (some (.int .i64 (n : Int)))).run Try.prog w = .ok (.map (some w.heap.size)) (w.alloc (.map #[] 0)) := by
  simp [Instr.makeMap, run_underlying Try.underlying27, asInt, asIntOf, Result.andThen]

/-- A liveNodes just made, its map still empty. -/
def LiveAt (w wx : World) (L M : Nat) (v : Value) : Prop :=
  Turns [] w wx ∧ w.heap.size ≤ M ∧ M < L ∧ wx.heap[M]? = some (.map #[] 0) ∧ ∃ v2 v3 v4 v5 v6 v7, Blk wx L 69 #[v, .map (some M), v2, v3, v4, v5, v6, v7]
theorem live_made {w : World} (o0 o1 o2 o3 : Obj) (v v2 v3 v4 v5 v6 v7 : Value) (M : Nat)
    (hM : (M = w.heap.size ∧ o0 = .map #[] 0) ∨ (M = w.heap.size + 1 ∧ o1 = .map #[] 0) ∨ (M = w.heap.size + 1 + 1 ∧ o2 = .map #[] 0) ∨ (M = w.heap.size + 1 + 1 + 1 ∧ o3 = .map #[] 0)) :
    LiveAt w (((((w.alloc o0).alloc o1).alloc o2).alloc o3).alloc (.cells #[v, .map (some M), v2, v3, v4, v5, v6, v7] 69)).drew (w.heap.size + 1 + 1 + 1 + 1) M v := by
  have hsz : ∀ (u : World) (o : Obj), (u.alloc o).heap.size = u.heap.size + 1 := fun u o => by simp
  have hnew : ∀ (u : World) (o : Obj) (k : Nat), k = u.heap.size → (u.alloc o).heap[k]? = some o := fun u o k e => by subst e; show (u.heap.push o)[u.heap.size]? = _; simp
  refine ⟨(((((((Turns.refl _ w).alloc _).alloc _).alloc _).alloc _).alloc _).drew), by omega, by omega, ?_, v2, v3, v4, v5, v6, v7, ?_⟩
  · show (((((w.alloc o0).alloc o1).alloc o2).alloc o3).alloc (.cells #[v, .map (some M), v2, v3, v4, v5, v6, v7] 69)).heap[M]? = _
    rcases hM with ⟨e, rfl⟩ | ⟨e, rfl⟩ | ⟨e, rfl⟩ | ⟨e, rfl⟩
    · rw [Below.heap_alloc _ _ _ (by simp only [hsz]; omega), Below.heap_alloc _ _ _ (by simp only [hsz]; omega), Below.heap_alloc _ _ _ (by simp only [hsz]; omega), Below.heap_alloc _ _ _ (by simp only [hsz]; omega)]
      exact hnew _ _ _ e
    · rw [Below.heap_alloc _ _ _ (by simp only [hsz]; omega), Below.heap_alloc _ _ _ (by simp only [hsz]; omega), Below.heap_alloc _ _ _ (by simp only [hsz]; omega)]
      exact hnew _ _ _ (by simp only [hsz]; omega)
    · rw [Below.heap_alloc _ _ _ (by simp only [hsz]; omega), Below.heap_alloc _ _ _ (by simp only [hsz]; omega)]
      exact hnew _ _ _ (by simp only [hsz]; omega)
    · rw [Below.heap_alloc _ _ _ (by simp only [hsz]; omega)]
      exact hnew _ _ _ (by simp only [hsz]; omega)
  · exact Blk.drew (blk_new (by simp only [hsz]))

theorem law : Keyed Try.prog 9 := string_keyed Try.underlying9
theorem zero3 (w : World) : (zeroValue 3).run Try.prog w = .ok (.int .i64 0) w := by kernel_rfl
def keyAt (ks : List ByteArray) (k : Nat) : Lit := .string (sat ks k).data.toList
def Lm (ks : List ByteArray) : Nat → DataW Unit
  | 0 => .map []
  | k + 1 => (Lm ks k).put (keyAt ks k) (.lit (.int .i64 k))
theorem key_ok {ks : List ByteArray} (hsz : ∀ s ∈ ks, s.size ≤ maxLen) (k : Nat) : keyOf Try.prog 9 (.string (sat ks k)) = some (keyAt ks k) := by
  refine keyOf_string_mk Try.underlying9 ?_
  by_cases hk : k < ks.length
  · rw [sat, List.getD, List.getElem?_eq_getElem hk]
    exact hsz _ (List.getElem_mem hk)
  · rw [sat, List.getD, List.getElem?_eq_none (by omega)]
    exact Nat.zero_le _

set_option maxHeartbeats 4000000 in
set_option maxRecDepth 100000 in
theorem live_any (a : Option Addr) (n c : Nat) (ks : List ByteArray) (w : World) (hn : n = ks.length) (hbig : n ≤ 1048576) (hk : Row w a (sv ks)) (hsz : ∀ s ∈ ks, s.size ≤ maxLen) :
    Calls Try.prog 31 #[.slice a n c] w fun e w' => ∃ L M, e = .returned (.pointer (some ⟨L, 0, none⟩)) ∧ w.heap.size ≤ M ∧ M < L ∧ Turns [] w w' ∧ (∃ v2 v3 v4 v5 v6 v7, Blk w' L 69 #[.slice a n c, .map (some M), v2, v3, v4, v5, v6, v7]) ∧ w'.ownsMap Try.prog 9 (plainElem Try.prog 3) M n (Lm ks n) := by
  have hmm := run_makeMap_hint n
  have hm28 := run_make_row' (P := Try.prog) 28 3 (.int .i64 0) 8 Try.underlying28 Try.info3 rfl .i64 .i64 n (by omega) (by omega)
  have hm29 := run_make_row' (P := Try.prog) 29 4 (.bool false) 1 Try.underlying29 Try.info4 rfl .i64 .i64 n (by omega) (by omega)
  have HN := hide hn
  have HK := hide hk
  have HSZ := hide hsz
  clear hn hk hsz
  go_enter Try.func31, Try.ntmps31
  go_wp2_with fail
  go_cut [3] (fun s3 wx => s3 = .pointer (some ⟨w.heap.size + 1 + 1 + 1 + 1, 0, none⟩) ∧ ∃ M, LiveAt w wx (w.heap.size + 1 + 1 + 1 + 1) M (.slice a n c))
  case first =>
    go_region
    all_goals go_wp2_with fail
    all_goals go_meet
    all_goals exact ⟨rfl, _, live_made _ _ _ _ _ _ _ _ _ _ _ _ (by simp)⟩
  case rest =>
    clear hmm hm28 hm29
    obtain ⟨rfl, M, hT, hM, hML, hem, hB⟩ := hcut
    generalize w.heap.size + 1 + 1 + 1 + 1 = L at hML hB
    have HB := hide hB
    have HM := hide hM
    have HML := hide hML
    have HT := hide hT
    have HEM := hide hem
    clear hB hM hML hT hem
    go_wp2_with fail
    go_loopw [4, 5, 25] (fun _ _ s25 wr => ∃ k : Nat, k ≤ n ∧ s25 = .int .i64 k ∧ wr.ownsMap Try.prog 9 (plainElem Try.prog 3) M k (Lm ks k) ∧ Hid (Turns [M] wc wr)) (fun _ _ s25 _ => n - (intOf s25).toNat)
    case atStart => exact ⟨0, Nat.zero_le _, rfl, ⟨_, _, HEM.out, ⟨by simp, MapKept.stamped_empty 0, by simp⟩, Nat.le_refl _, rfl⟩, hide (Turns.refl _ _)⟩
    case round =>
      obtain ⟨k, hk, rfl, hown, HTW⟩ := hrel
      by_cases hlt : k < n
      · have hlz : (k : Int) < (n : Int) := by omega
        obtain ⟨b1, o1, rfl, hb1, hc0⟩ := HK.out k _ (sv_get (by rw [← HN.out]; exact hlt))
        have hc1 : wr.cell? ⟨b1, o1 + k, none⟩ = some (.string (sat ks k)) := HTW.out.cell (HT.out.cell hc0 (by simp)) (by simp; have := HM.out; omega)
        have hkey := key_ok HSZ.out k
        have HLT := hide hlt
        generalize sat ks k = y at hc1 hkey
        obtain ⟨v2, v3, v4, v5, v6, v7, hLB⟩ := HB.out
        have hcm : wr.cell? ⟨L, 1, none⟩ = some (.map (some M)) := HTW.out.cell (hLB.cell rfl) (by simp; have := HML.out; omega)
        clear hc0 hb1 hLB
        go_wp2_with (first
          | (at_mapUpdate; refine wpList_mapUpdate_own _ rfl _ _ _ 27 rfl 9 3 law Try.underlying27 _ M k _ rfl hown (by unfold maxLen; omega) _ _ _ rfl rfl hkey _ [] (plainElem_int Try.underlying3 (WalkArith.wf_i64 (by omega))) ?_; intro w1 hown1 hgrow1)
          | go_in)
        have R1 : w1.ownsMap Try.prog 9 (plainElem Try.prog 3) M (k + 1) (Lm ks (k + 1)) := hown1
        have R2 := hide (HTW.out.grown hgrow1 (by simp))
        clear hown1 hgrow1 hown hcm hc1 HTW
        go_wp2_with fail
        go_roundw
        case rel => exact ⟨k + 1, by omega, by go_num, R1, R2⟩
        case measure => simp [intOf]; omega
      · obtain rfl : k = n := by omega
        clear hk hlt
        go_wp2_with fail
        go_ret
        obtain ⟨v2, v3, v4, v5, v6, v7, hLB⟩ := HB.out
        refine ⟨L, M, rfl, HM.out, HML.out, ?_, ⟨v2, v3, v4, v5, v6, v7, HTW.out.kept hLB (by simp; have := HML.out; omega)⟩, hown⟩
        have h1 := HT.out
        have h2 := HTW.out
        exact ⟨h2.os.trans h1.os, h2.tape.trans h1.tape, h2.output.trans h1.output, Nat.le_trans h1.size h2.size, fun i hi _ => (h2.block i (Nat.lt_of_lt_of_le hi h1.size) (by simp; have := HM.out; omega)).trans (h1.block i hi (by simp))⟩

set_option maxHeartbeats 1000000 in
theorem zzlive_any (a : Option Addr) (n c : Nat) (ks : List ByteArray) (w : World) (hn : n = ks.length) (hbig : n ≤ 1048576) (hk : Row w a (sv ks)) (hsz : ∀ s ∈ ks, s.size ≤ maxLen) :
    Calls Try.prog 9 #[.slice a n c] w fun e w' => ∃ L M, e = .returned (.pointer (some ⟨L, 0, none⟩)) ∧ w.heap.size ≤ M ∧ M < L ∧ Turns [] w w' ∧ (∃ v2 v3 v4 v5 v6 v7, Blk w' L 69 #[.slice a n c, .map (some M), v2, v3, v4, v5, v6, v7]) ∧ w'.ownsMap Try.prog 9 (plainElem Try.prog 3) M n (Lm ks n) := by
  have hcall := live_any a n c ks w hn hbig hk hsz
  clear hn hk hsz
  go_enter Try.func9, Try.ntmps9
  go_wp2_with fail
  refine hcall.mono ?_
  rintro e w1 ⟨L, M, rfl, h⟩
  clear hcall
  have H := hide h
  clear h
  go_wp2_with fail
  go_ret
  exact ⟨L, M, rfl, H.out⟩

end Go.Proofs.Qxb6619598a
