import Derived.Test.Qxb6619598aTal
import Derived.Lib.SliceRun
namespace Go.Proofs.Qxb6619598a
open Go.RowKit Go.WideShapes Go.Op

theorem below_setRow {B : Nat} {W w : World} (h : Below B W w) {g : Nat} (hg : B ≤ g) (cs : Array Value) : Below B W (w.setRow g cs) :=
  h.trans ⟨rfl, rfl, rfl, by simp, fun k hk => setRow_other w g k cs (by omega)⟩

/-- A row that is owned whole, as a block. -/
theorem own_block {w : World} {B g n e : Nat} {xs : List Value} (ho : w.ownsRow B e 1 (.slice (some ⟨g, 0, none⟩) n n) n xs) : Blk w g e xs.toArray := by
  rcases ho.2 with ⟨h', _⟩ | ⟨g', cap', cur, h', _, hg, _, _, hs, htake⟩
  · simp at h'
  · simp only [Value.slice.injEq, Option.some.injEq, Addr.mk.injEq, and_true, true_and] at h'
    obtain ⟨rfl, rfl⟩ := h'
    rw [List.take_of_length_le (by simp; omega)] at htake
    show w.heap[g]? = _
    rw [hg, ← htake]

theorem Try.info9 : (Try.prog.info? 9).map (fun i => (i.zero, i.size, i.bytes)) = some (some (.string ByteArray.empty), 1, 16) := by kernel_rfl
theorem Try.info3 : (Try.prog.info? 3).map (fun i => (i.zero, i.size, i.bytes)) = some (some (.int .i64 0), 1, 8) := by kernel_rfl
theorem Try.info4 : (Try.prog.info? 4).map (fun i => (i.zero, i.size, i.bytes)) = some (some (.bool false), 1, 1) := by kernel_rfl

theorem info_parts {P : Program} {t : TypeId} {z : Option Value} {s b : Nat} (h : (P.info? t).map (fun i => (i.zero, i.size, i.bytes)) = some (z, s, b)) : ∃ i, P.info? t = some i ∧ i.zero = z ∧ i.size = s ∧ i.bytes = b := by
  cases hq : P.info? t with
  | none => simp [hq] at h
  | some i =>
    simp [hq] at h
    exact ⟨i, rfl, h.1, h.2.1, h.2.2⟩

/-- 'copy(out, xs)', out just made, as long as xs. -/
theorem copy_run {w w1 : World} {g n c tS tE : Nat} {ad : Addr} {vs cur : List Value} (hu : Try.prog.underlying tS = some (.slice tE)) (hi : (Try.prog.info? tE).map (·.size) = some 1) (h1 : ∀ v ∈ vs, v.oneCell' = true)
    (hn : n = vs.length) (hk : Row w (some ad) vs) (hb : Below w.heap.size w w1) (hBg : w.heap.size ≤ g) (hg : Blk w1 g tE cur.toArray) (hl : cur.length = n) :
    ∃ w2, (Builtin.copy_ #[tS, tS] 3 #[.slice (some ⟨g, 0, none⟩) n n, .slice (some ad) n c]).run Try.prog w1 = .ok (.int .i64 n) w2 ∧ Below w.heap.size w w2 ∧ Blk w2 g tE vs.toArray := by
  have hrun := run_copy_row (P := Try.prog) w1 tS tS 3 tE g 0 n n ad n c cur.toArray tE vs hu hi hg (by simp [hn])
    (fun j v hj => by
      obtain ⟨b', off', e', hlt, hc⟩ := hk j v hj
      simp only [Option.some.injEq] at e'
      subst e'
      rw [add_plain, hb.cell (p := ⟨b', off' + j, none⟩) hlt, hc]) (by simp; omega) h1
  have e : List.take 0 cur.toArray.toList ++ vs ++ List.drop (0 + vs.length) cur.toArray.toList = vs := by
    have : List.drop vs.length cur = [] := List.drop_of_length_le (by omega)
    simp [this]
  rw [e] at hrun
  refine ⟨_, ?_, below_setRow hb hBg _, setRow_heap w1 g _ _ tE _ hg⟩
  rw [hrun]
  simp [goInt, hn]

/-- What a clone hands back. -/
def Cloned (w w' : World) (tE : Nat) (a : Option Addr) (vs : List Value) (e : Ending) : Prop :=
  ∃ v, e = .returned v ∧ Turns [] w w' ∧ ((a = none ∧ v = .slice none 0 0) ∨ (∃ g, w.heap.size ≤ g ∧ v = .slice (some ⟨g, 0, none⟩) vs.length vs.length ∧ Blk w' g tE vs.toArray))

set_option maxHeartbeats 1000000 in
set_option maxRecDepth 100000 in
theorem clone8_any (a : Option Addr) (n c : Nat) (ks : List ByteArray) (w : World) (hn : n = ks.length) (hbig : n ≤ 1048576) (hz : a = none → n = 0 ∧ c = 0) (hk : Row w a (sv ks)) :
    Calls Try.prog 8 #[.slice a n c] w fun e w' => Cloned w w' 9 a (sv ks) e := by
  cases a with
  | none =>
    obtain ⟨rfl, rfl⟩ := hz rfl
    clear hz hk hn
    have hnil : (binOp .eql 22 (.slice none 0 0) (.slice none 0 0)).run Try.prog w = .ok (.bool true) w := Lib.run_eql_slice_nil (P := Try.prog) w 22 9 none 0 0 0 0 Try.underlying22
    go_enter Try.func8, Try.ntmps8
    go_wp2
    go_ret
    exact ⟨_, rfl, Turns.refl _ _, .inl ⟨rfl, rfl⟩⟩
  | some ad =>
    obtain ⟨i0, hi, hz0, hz1, hz2⟩ := info_parts Try.info9
    have hb16 : i0.bytes * n ≤ 281474976710656 := by rw [hz2]; omega
    have HN := hide (show n = (sv ks).length by rw [hn]; simp [sv])
    have HK := hide hk
    have H1 := hide (show ∀ v ∈ sv ks, v.oneCell' = true from fun v hv => by obtain ⟨x, _, rfl⟩ := List.mem_map.1 hv; rfl)
    clear hn hk hz
    have hnil : (binOp .eql 22 (.slice (some ad) n c) (.slice none 0 0)).run Try.prog w = .ok (.bool false) w := Lib.run_eql_slice_nil (P := Try.prog) w 22 9 (some ad) n c 0 0 Try.underlying22
    go_enter Try.func8, Try.ntmps8
    go_wp2_with (at_make; refine wpList_make_full _ rfl _ _ 22 rfl w.heap.size 9 i0 _ 1 Try.underlying22 hi hz0 hz1 _ _ _ _ n rfl rfl rfl rfl hb16 (by unfold maxLen; omega) (Nat.le_refl _) ?_; clear hz0 hz1 hz2 hb16 hi; intro w1 ho hg; obtain ⟨w2, hrun, hB2, hG2⟩ := copy_run (c := c) Try.underlying22 (by kernel_rfl) H1.out HN.out HK.out ((Below.refl w.heap.size w).grown hg (Nat.le_refl _) (by simp)) (Nat.le_refl _) (own_block ho) (by have := ho.1; omega); have HB := hide hB2; have HG := hide hG2; clear ho hg hB2 hG2 HK)
    go_ret
    exact ⟨_, rfl, turns_of_below HB.out, .inr ⟨w.heap.size, Nat.le_refl _, by rw [← HN.out]; rfl, HG.out⟩⟩

set_option maxHeartbeats 1000000 in
set_option maxRecDepth 100000 in
theorem clone18_any (a : Option Addr) (n c : Nat) (ks : List Int) (w : World) (hn : n = ks.length) (hbig : n ≤ 1048576) (hz : a = none → n = 0 ∧ c = 0) (hk : Row w a (iv ks)) :
    Calls Try.prog 18 #[.slice a n c] w fun e w' => Cloned w w' 3 a (iv ks) e := by
  cases a with
  | none =>
    obtain ⟨rfl, rfl⟩ := hz rfl
    clear hz hk hn
    have hnil : (binOp .eql 28 (.slice none 0 0) (.slice none 0 0)).run Try.prog w = .ok (.bool true) w := Lib.run_eql_slice_nil (P := Try.prog) w 28 3 none 0 0 0 0 Try.underlying28
    go_enter Try.func18, Try.ntmps18
    go_wp2
    go_ret
    exact ⟨_, rfl, Turns.refl _ _, .inl ⟨rfl, rfl⟩⟩
  | some ad =>
    obtain ⟨i0, hi, hz0, hz1, hz2⟩ := info_parts Try.info3
    have hb16 : i0.bytes * n ≤ 281474976710656 := by rw [hz2]; omega
    have HN := hide (show n = (iv ks).length by rw [hn]; simp [iv])
    have HK := hide hk
    have H1 := hide (show ∀ v ∈ iv ks, v.oneCell' = true from fun v hv => by obtain ⟨x, _, rfl⟩ := List.mem_map.1 hv; rfl)
    clear hn hk hz
    have hnil : (binOp .eql 28 (.slice (some ad) n c) (.slice none 0 0)).run Try.prog w = .ok (.bool false) w := Lib.run_eql_slice_nil (P := Try.prog) w 28 3 (some ad) n c 0 0 Try.underlying28
    go_enter Try.func18, Try.ntmps18
    go_wp2_with (at_make; refine wpList_make_full _ rfl _ _ 28 rfl w.heap.size 3 i0 _ 1 Try.underlying28 hi hz0 hz1 _ _ _ _ n rfl rfl rfl rfl hb16 (by unfold maxLen; omega) (Nat.le_refl _) ?_; clear hz0 hz1 hz2 hb16 hi; intro w1 ho hg; obtain ⟨w2, hrun, hB2, hG2⟩ := copy_run (c := c) Try.underlying28 (by kernel_rfl) H1.out HN.out HK.out ((Below.refl w.heap.size w).grown hg (Nat.le_refl _) (by simp)) (Nat.le_refl _) (own_block ho) (by have := ho.1; omega); have HB := hide hB2; have HG := hide hG2; clear ho hg hB2 hG2 HK)
    go_ret
    exact ⟨_, rfl, turns_of_below HB.out, .inr ⟨w.heap.size, Nat.le_refl _, by rw [← HN.out]; rfl, HG.out⟩⟩

set_option maxHeartbeats 1000000 in
set_option maxRecDepth 100000 in
theorem clone19_any (a : Option Addr) (n c : Nat) (ks : List Bool) (w : World) (hn : n = ks.length) (hbig : n ≤ 1048576) (hz : a = none → n = 0 ∧ c = 0) (hk : Row w a (bv ks)) :
    Calls Try.prog 19 #[.slice a n c] w fun e w' => Cloned w w' 4 a (bv ks) e := by
  cases a with
  | none =>
    obtain ⟨rfl, rfl⟩ := hz rfl
    clear hz hk hn
    have hnil : (binOp .eql 29 (.slice none 0 0) (.slice none 0 0)).run Try.prog w = .ok (.bool true) w := Lib.run_eql_slice_nil (P := Try.prog) w 29 4 none 0 0 0 0 Try.underlying29
    go_enter Try.func19, Try.ntmps19
    go_wp2
    go_ret
    exact ⟨_, rfl, Turns.refl _ _, .inl ⟨rfl, rfl⟩⟩
  | some ad =>
    obtain ⟨i0, hi, hz0, hz1, hz2⟩ := info_parts Try.info4
    have hb16 : i0.bytes * n ≤ 281474976710656 := by rw [hz2]; omega
    have HN := hide (show n = (bv ks).length by rw [hn]; simp [bv])
    have HK := hide hk
    have H1 := hide (show ∀ v ∈ bv ks, v.oneCell' = true from fun v hv => by obtain ⟨x, _, rfl⟩ := List.mem_map.1 hv; rfl)
    clear hn hk hz
    have hnil : (binOp .eql 29 (.slice (some ad) n c) (.slice none 0 0)).run Try.prog w = .ok (.bool false) w := Lib.run_eql_slice_nil (P := Try.prog) w 29 4 (some ad) n c 0 0 Try.underlying29
    go_enter Try.func19, Try.ntmps19
    go_wp2_with (at_make; refine wpList_make_full _ rfl _ _ 29 rfl w.heap.size 4 i0 _ 1 Try.underlying29 hi hz0 hz1 _ _ _ _ n rfl rfl rfl rfl hb16 (by unfold maxLen; omega) (Nat.le_refl _) ?_; clear hz0 hz1 hz2 hb16 hi; intro w1 ho hg; obtain ⟨w2, hrun, hB2, hG2⟩ := copy_run (c := c) Try.underlying29 (by kernel_rfl) H1.out HN.out HK.out ((Below.refl w.heap.size w).grown hg (Nat.le_refl _) (by simp)) (Nat.le_refl _) (own_block ho) (by have := ho.1; omega); have HB := hide hB2; have HG := hide hG2; clear ho hg hB2 hG2 HK)
    go_ret
    exact ⟨_, rfl, turns_of_below HB.out, .inr ⟨w.heap.size, Nat.le_refl _, by rw [← HN.out]; rfl, HG.out⟩⟩

end Go.Proofs.Qxb6619598a
