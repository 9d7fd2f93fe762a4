import Derived.Test.Qxb6619598aSwap
import Derived.Test.Qxb6619598aPlain
import Derived.Test.Qxb6619598aOthers
namespace Go.Proofs.Qxb6619598a
open Go.RowKit Go.WideShapes Go.Maps Go.WideMaps

set_option maxHeartbeats 2000000 in
set_option maxRecDepth 100000 in
theorem zzswap_any (g : Cfg) (hA : Apart g) (arr : Array Value) (ld : ByteArray) (f : List ByteArray) (lc fc : List Int) (ch : List Bool) (bud : Int) (k a b : Nat) (w : World) (h : St g w arr ld f lc fc ch bud k)
    (ha : a < g.nR) (hb : b < g.nR) (hab : a ≠ b) (hl : sat g.ring a = ld) (hix : 0 ≤ idx f (sat g.ring b)) (hil : idx f (sat g.ring b) < f.length) (hf : f.length ≤ 1048576) (hk : k ≤ 1000)
    (f1 : Fit lc g.lo1 g.hi1) (f1' : Fit (lc.set a (iat lc a - 1)) g.lo1 g.hi1) (f2 : Fit fc g.lo2 g.hi2) (f2' : Fit (fc.set b (iat fc b - 1)) g.lo2 g.hi2) :
    Calls Try.prog 22 #[.pointer (some ⟨g.R, 0, none⟩), .int .i64 g.i, .int .i64 b] w fun e w' => e = .returned (.tuple #[]) ∧
      St g w' (arr.setIfInBounds (g.i * 5 + 1) (.string (sat g.ring b))) (sat g.ring b) (srt (f.set (idx f (sat g.ring b)).toNat ld)) (passed lc a b) (passed fc b a) (ch.set g.i true) (wrap64 (bud - 1)) (k + 1) ∧
      ∃ T, (∀ x, x ∈ T → x ∈ [g.R, g.SB, g.FB, g.S1, g.S2, g.C1, g.C2, g.CH] ∨ g.B ≤ x) ∧ Turns T w w' := by
  have hcall := swap_any g hA arr ld f lc fc ch bud k a b w h ha hb hab hl hix hil hf hk f1 f1' f2 f2'
  clear h hl hix hil f1 f1' f2 f2' hab hA hf hk ha hb
  go_enter Try.func22, Try.ntmps22
  go_wp2_with fail
  refine hcall.mono ?_
  rintro e w' ⟨rfl, h1, h2⟩
  clear hcall
  have H1 := hide h1
  have H2 := hide h2
  clear h1 h2
  go_wp2_with fail
  go_end0
  exact ⟨rfl, H1.out, H2.out⟩

theorem FRow.turns {w w' : World} {a : Option Addr} {fs : List FL} (h : FRow w a fs) (hT : Turns [] w w') : FRow w' a fs := ⟨hT.rowAll h.1, fun k hk => ⟨hT.rowAll (h.2 k hk).1, (h.2 k hk).2⟩⟩

/-- What came in lies in memory. -/
structure In (w : World) (a0 a1 a2 a5 a6 a7 : Option Addr) (n0 c0 n1 c1 n2 c2 n5 c5 n6 c6 n7 c7 : Nat) (k0 k1 : List ByteArray) (fs : List FL) (lc fc : List Int) (dr : List Bool) : Prop where
  e0 : n0 = k0.length
  e1 : n1 = k1.length
  e2 : n2 = fs.length
  e5 : n5 = lc.length
  e6 : n6 = fc.length
  e7 : n7 = dr.length
  r0 : Row w a0 (sv k0)
  r1 : Row w a1 (sv k1)
  r2 : FRow w a2 fs
  r5 : Row w a5 (iv lc)
  r6 : Row w a6 (iv fc)
  r7 : Row w a7 (bv dr)
  z0 : a0 = none → n0 = 0 ∧ c0 = 0
  z5 : a5 = none → n5 = 0 ∧ c5 = 0
  z6 : a6 = none → n6 = 0 ∧ c6 = 0
  z7 : a7 = none → n7 = 0 ∧ c7 = 0
  sz : ∀ s ∈ k0, s.size ≤ maxLen
theorem In.turns {w w' : World} {a0 a1 a2 a5 a6 a7 : Option Addr} {n0 c0 n1 c1 n2 c2 n5 c5 n6 c6 n7 c7 : Nat} {k0 k1 : List ByteArray} {fs : List FL} {lc fc : List Int} {dr : List Bool}
    (h : In w a0 a1 a2 a5 a6 a7 n0 c0 n1 c1 n2 c2 n5 c5 n6 c6 n7 c7 k0 k1 fs lc fc dr) (hT : Turns [] w w') : In w' a0 a1 a2 a5 a6 a7 n0 c0 n1 c1 n2 c2 n5 c5 n6 c6 n7 c7 k0 k1 fs lc fc dr :=
  ⟨h.e0, h.e1, h.e2, h.e5, h.e6, h.e7, hT.rowAll h.r0, hT.rowAll h.r1, h.r2.turns hT, hT.rowAll h.r5, hT.rowAll h.r6, hT.rowAll h.r7, h.z0, h.z5, h.z6, h.z7, h.sz⟩

theorem Try.info49 : (Try.prog.info? 49).map (fun i => (i.zero, i.size, i.bytes)) = some (some (.agg #[.int .i64 0, .string ByteArray.empty, .int .u64 0, .slice none 0 0, .slice none 0 0]), 5, 80) := by kernel_rfl
theorem own_block5 {w : World} {B g n e : Nat} {xs : List Value} (ho : w.ownsRow B e 5 (.slice (some ⟨g, 0, none⟩) n n) n xs) : Blk w g e xs.toArray := by
  rcases ho.2 with ⟨h', _⟩ | ⟨g', cap', cur, h', _, hg, _, _, hs, htake⟩
  · simp at h'
  · simp only [Value.slice.injEq, Option.some.injEq, Addr.mk.injEq, and_true, true_and] at h'
    obtain ⟨rfl, rfl⟩ := h'
    rw [List.take_of_length_le (by simp; omega)] at htake
    show w.heap[g]? = _
    rw [hg, ← htake]

/-- The slots as far as they are laid: k of them. -/
structure Slots (w : World) (SB n k : Nat) (arr : Array Value) (G : Nat → Option Nat) (k1 : List ByteArray) (fs : List FL) : Prop where
  blk : Blk w SB 49 arr
  size : arr.size = n * 5
  sl : ∀ j, j < k → arr[j * 5 + 1]? = some (.string (sat k1 j))
  sf : ∀ j, j < k → (G j = none ∧ (fat fs j).ks = [] ∧ arr[j * 5 + 3]? = some (.slice none 0 0)) ∨ (∃ x, G j = some x ∧ SB < x ∧ arr[j * 5 + 3]? = some (.slice (some ⟨x, 0, none⟩) (fat fs j).ks.length (fat fs j).ks.length) ∧ Blk w x 9 (sv (fat fs j).ks).toArray)
  df : ∀ j j', j < j' → j' < k → ∀ x, G j = some x → G j' ≠ some x
theorem arr_some {arr : Array Value} {j : Nat} (h : j < arr.size) : ∃ v, arr[j]? = some v := ⟨arr[j], by simp [h]⟩

/-- One slot more. -/
theorem slots_step {w w2 w3 : World} {SB n k : Nat} {arr : Array Value} {G : Nat → Option Nat} {k1 : List ByteArray} {fs : List FL} (h : Slots w SB n k arr G k1 fs) (hk : k < n) (v0 v : Value)
    (hw2 : w2 = (w.setCell ⟨SB, k * 5, none⟩ v0).setCell ⟨SB, k * 5 + 1, none⟩ (.string (sat k1 k))) (hT : Turns [] w2 w3)
    (hv : ((fat fs k).a = none ∧ v = .slice none 0 0) ∨ ∃ g, w2.heap.size ≤ g ∧ v = .slice (some ⟨g, 0, none⟩) (sv (fat fs k).ks).length (sv (fat fs k).ks).length ∧ Blk w3 g 9 (sv (fat fs k).ks).toArray)
    (hz : (fat fs k).a = none → (fat fs k).ks = []) :
    ∃ arr' G', Slots (w3.setCell ⟨SB, k * 5 + 3, none⟩ v) SB n (k + 1) arr' G' k1 fs := by
  subst hw2
  have hb2 := (h.blk.set (k * 5) v0).set (k * 5 + 1) (.string (sat k1 k))
  have hb3 := (hT.kept hb2 (by simp)).set (k * 5 + 3) v
  have hsz := h.size
  have hlt := h.blk.lt
  have hsz2 : ((w.setCell ⟨SB, k * 5, none⟩ v0).setCell ⟨SB, k * 5 + 1, none⟩ (.string (sat k1 k))).heap.size = w.heap.size := by simp
  have hget : ∀ j, j ≠ k * 5 → j ≠ k * 5 + 1 → j ≠ k * 5 + 3 → (((arr.setIfInBounds (k * 5) v0).setIfInBounds (k * 5 + 1) (.string (sat k1 k))).setIfInBounds (k * 5 + 3) v)[j]? = arr[j]? := fun j h1 h2 h3 => by
    rw [Array.getElem?_setIfInBounds_ne (fun e => h3 e.symm), Array.getElem?_setIfInBounds_ne (fun e => h2 e.symm), Array.getElem?_setIfInBounds_ne (fun e => h1 e.symm)]
  have hkeep : ∀ x, SB < x → ∀ cs, Blk w x 9 cs → Blk (w3.setCell ⟨SB, k * 5 + 3, none⟩ v) x 9 cs := fun x hx cs hb =>
    (hT.kept ((hb.setOther (a := ⟨SB, k * 5, none⟩) (by simp; omega) v0).setOther (a := ⟨SB, k * 5 + 1, none⟩) (by simp; omega) (.string (sat k1 k))) (by simp)).setOther (a := ⟨SB, k * 5 + 3, none⟩) (by simp; omega) v
  have hnew1 : (((arr.setIfInBounds (k * 5) v0).setIfInBounds (k * 5 + 1) (.string (sat k1 k))).setIfInBounds (k * 5 + 3) v)[k * 5 + 1]? = some (.string (sat k1 k)) := by
    rw [Array.getElem?_setIfInBounds_ne (by omega), Array.getElem?_setIfInBounds_self_of_lt (by simp; omega)]
  have hnew3 : (((arr.setIfInBounds (k * 5) v0).setIfInBounds (k * 5 + 1) (.string (sat k1 k))).setIfInBounds (k * 5 + 3) v)[k * 5 + 3]? = some v := by
    rw [Array.getElem?_setIfInBounds_self_of_lt (by simp; omega)]
  obtain ⟨g', hg'⟩ : ∃ g' : Option Nat, (g' = none ∧ (fat fs k).ks = [] ∧ v = .slice none 0 0) ∨ (∃ x, g' = some x ∧ w.heap.size ≤ x ∧ v = .slice (some ⟨x, 0, none⟩) (fat fs k).ks.length (fat fs k).ks.length ∧ Blk w3 x 9 (sv (fat fs k).ks).toArray) := by
    rcases hv with ⟨h1, h2⟩ | ⟨g, h1, h2, h3⟩
    · exact ⟨none, .inl ⟨rfl, hz h1, h2⟩⟩
    · exact ⟨some g, .inr ⟨g, rfl, by omega, by rw [h2, sv_len], h3⟩⟩
  refine ⟨_, fun j => if j = k then g' else G j, hb3, by simp [hsz], fun j hj => ?_, fun j hj => ?_, fun j j' hjj hj' x hx => ?_⟩
  · by_cases e : j = k
    · subst e; exact hnew1
    · rw [hget _ (by omega) (by omega) (by omega)]; exact h.sl j (by omega)
  · by_cases e : j = k
    · subst e
      simp only [if_true]
      rcases hg' with ⟨h1, h2, h3⟩ | ⟨x, h1, h2, h3, h4⟩
      · exact .inl ⟨h1, h2, by rw [hnew3, h3]⟩
      · exact .inr ⟨x, h1, by omega, by rw [hnew3, h3], h4.setOther (a := ⟨SB, j * 5 + 3, none⟩) (by simp; omega) v⟩
    · simp only [if_neg e]
      rw [hget _ (by omega) (by omega) (by omega)]
      rcases h.sf j (by omega) with h1 | ⟨x, h1, h2, h3, h4⟩
      · exact .inl h1
      · exact .inr ⟨x, h1, h2, h3, hkeep x h2 _ h4⟩
  · have e1 : j ≠ k := by omega
    simp only [if_neg e1] at hx
    by_cases e : j' = k
    · simp only [e, if_true]
      rcases h.sf j (by omega) with ⟨h1, _⟩ | ⟨y, h1, _, _, h4⟩
      · rw [h1] at hx; cases hx
      · rcases hg' with ⟨h5, _⟩ | ⟨x', h5, h6, _⟩
        · rw [h5]; simp
        · rw [h5]
          intro e2
          have : y = x := by rw [h1] at hx; exact Option.some.inj hx
          have := h4.lt
          have : x' = x := Option.some.inj e2
          omega
    · simp only [if_neg e]
      exact h.df j j' hjj (by omega) x hx

theorem apart_mk {SB FB TB C1 C2 D CH RB M LB S1 S2 R : Nat} (h1 : SB < FB) (h2 : FB < TB) (h3 : TB < C1) (h4 : C1 < C2) (h5 : C2 < D) (h6 : D < CH) (h7 : CH < RB) (h8 : RB < M) (h9 : M < LB) (h10 : LB < S1) (h11 : S1 < S2) (h12 : S2 < R) :
    [R, TB, LB, M, RB, S1, S2, C1, C2, D, CH, SB, FB].Nodup ∧ ∀ k, k ∈ [R, TB, LB, M, RB, S1, S2, C1, C2, D, CH, SB, FB] → k < R + 1 := by
  constructor
  · simp only [List.nodup_cons, List.mem_cons, List.not_mem_nil, or_false, not_or, List.nodup_nil, and_true, not_false_eq_true]
    repeat' apply And.intro
    all_goals omega
  · intro k hk
    simp only [List.mem_cons, List.not_mem_nil, or_false] at hk
    rcases hk with rfl | rfl | rfl | rfl | rfl | rfl | rfl | rfl | rfl | rfl | rfl | rfl | rfl <;> omega
theorem made_false (n : Nat) : madeCells #[.bool false] n = (bv (List.replicate n false)).toArray :=
  Array.ext (by simp [madeCells, bv]) (fun i h1 h2 => by simp [madeCells, bv, Nat.mod_one])

theorem iat_passed {cnt : List Int} {a b : Nat} (ha : a < cnt.length) (hb : b < cnt.length) (j : Nat) : iat (passed cnt a b) j = if j = b then iat cnt b + 1 else if j = a then iat cnt a - 1 else iat cnt j := by
  rw [passed, iat_set _ _ _ _ (by simpa using hb), iat_set _ _ _ _ ha]
theorem passed_len (cnt : List Int) (a b : Nat) : (passed cnt a b).length = cnt.length := by simp [passed]
theorem moved_passed (cnt : List Int) {a b : Nat} (hab : a ≠ b) : moved cnt b a = passed cnt a b := by
  rw [moved, passed, List.set_comm _ _ (fun e => hab e.symm)]
theorem iat_ext {L M : List Int} (hl : L.length = M.length) (h : ∀ j, j < L.length → iat L j = iat M j) : L = M := by
  apply List.ext_getElem hl
  intro j h1 h2
  have := h j h1
  simpa [iat, h1, h2] using this
theorem passed_back {cnt : List Int} {a b : Nat} (ha : a < cnt.length) (hb : b < cnt.length) (hab : a ≠ b) : passed (passed cnt a b) b a = cnt := by
  apply iat_ext (by simp [passed])
  intro j _
  rw [iat_passed (by rw [passed_len]; exact hb) (by rw [passed_len]; exact ha), iat_passed ha hb, iat_passed ha hb, iat_passed ha hb]
  by_cases h1 : j = a
  · subst h1; simp [hab]
  · by_cases h2 : j = b
    · subst h2; simp [h1]
    · simp [h1, h2]
theorem fit_near {cnt cnt' : List Int} {lo hi : Int} (hl : cnt'.length = cnt.length) (hs : cnt.length ≤ 1048576) (hb : ∀ j, j < cnt.length → bnd (iat cnt j)) (hlo : bnd lo) (hhi : bnd hi)
    (hn : ∀ j, j < cnt.length → iat cnt j - 4 ≤ iat cnt' j ∧ iat cnt' j ≤ iat cnt j + 4) : Fit cnt' lo hi := by
  refine ⟨by omega, fun j hj => ?_, hlo, hhi⟩
  have h1 := hb j (by omega)
  have h2 := hn j (by omega)
  simp only [bnd] at h1
  omega
theorem near_set {cnt : List Int} {a : Nat} (ha : a < cnt.length) (j : Nat) : iat cnt j - 4 ≤ iat (cnt.set a (iat cnt a - 1)) j ∧ iat (cnt.set a (iat cnt a - 1)) j ≤ iat cnt j + 4 := by
  rw [iat_set _ _ _ _ ha]
  by_cases e : j = a
  · subst e; simp; omega
  · rw [if_neg e]; omega
theorem near_passed {cnt : List Int} {a b : Nat} (ha : a < cnt.length) (hb : b < cnt.length) (j : Nat) : iat cnt j - 1 ≤ iat (passed cnt a b) j ∧ iat (passed cnt a b) j ≤ iat cnt j + 1 := by
  rw [iat_passed ha hb]
  by_cases h1 : j = b
  · subst h1; simp; omega
  · by_cases h2 : j = a
    · subst h2; simp [h1]; omega
    · rw [if_neg h1, if_neg h2]; omega
theorem near_passed_set {cnt : List Int} {a b : Nat} (ha : a < cnt.length) (hb : b < cnt.length) (j : Nat) :
    iat cnt j - 4 ≤ iat ((passed cnt a b).set b (iat (passed cnt a b) b - 1)) j ∧ iat ((passed cnt a b).set b (iat (passed cnt a b) b - 1)) j ≤ iat cnt j + 4 := by
  have h1 := near_passed ha hb j
  rw [iat_set _ _ _ _ (by rw [passed_len]; exact hb)]
  by_cases e : j = b
  · subst e; simp; omega
  · rw [if_neg e]; omega

/-- The other slots as they were laid. -/
theorem slot_other {wr w : World} {SB n : Nat} {arr arr' : Array Value} {G : Nat → Option Nat} {k1 : List ByteArray} {fs : List FL} (h : Slots wr SB n n arr G k1 fs) (hb : Blk w SB 49 arr') {j q FB : Nat} (hj : j < n) (hq : q < n) (hjq : j ≠ q) (hGq : G q = some FB)
    (h1 : arr'[j * 5 + 1]? = arr[j * 5 + 1]?) (h3 : arr'[j * 5 + 3]? = arr[j * 5 + 3]?) (hk : ∀ x, x < wr.heap.size → x ≠ SB → x ≠ FB → w.heap[x]? = wr.heap[x]?) : SlotAt w SB j (sat k1 j) (fat fs j).ks := by
  refine ⟨hb.cell (h1.trans (h.sl j hj)), ?_⟩
  rcases h.sf j hj with ⟨_, h5, h6⟩ | ⟨x, h5, h6, h7, h8⟩
  · refine ⟨none, 0, ?_, ?_⟩
    · rw [h5]; exact hb.cell (h3.trans h6)
    · rw [h5]; exact row_nil _ _
  · refine ⟨_, _, hb.cell (h3.trans h7), ?_⟩
    have hne : x ≠ FB := by
      intro e
      subst e
      rcases Nat.lt_or_gt_of_ne hjq with hlt | hlt
      · exact h.df j q hlt hq x h5 hGq
      · exact h.df q j hlt hj x hGq h5
    have hb' : Blk w x 9 (sv (fat fs j).ks).toArray := (hk x h8.lt (by omega) hne).trans h8
    exact hb'.row _ rfl
theorem arr_other {arr : Array Value} {v : Value} {j q o : Nat} (hjq : j ≠ q) (ho : o < 5) : (arr.setIfInBounds (q * 5 + 1) v)[j * 5 + o]? = arr[j * 5 + o]? := Array.getElem?_setIfInBounds_ne (by omega)
theorem wrap_twice (b : Int) : wrap64 (wrap64 (b - 1) - 1) = wrap64 (b - 2) := by unfold wrap64; omega
theorem rep_set {k q j : Nat} (hj : j < k) : bat ((List.replicate k false).set q true) j = decide (j = q) := by
  by_cases e : j = q
  · subst e; simp [bat, hj]
  · rw [decide_eq_false e, bat, List.getD_eq_getElem?_getD, List.getElem?_set_ne (fun h => e h.symm)]
    simp [hj]
theorem rep_set2 {k q : Nat} : ((List.replicate k false).set q true).set q true = (List.replicate k false).set q true := by simp

theorem St.turns {g : Cfg} {w w' : World} {arr : Array Value} {ld : ByteArray} {f : List ByteArray} {lc fc : List Int} {ch : List Bool} {bud : Int} {k : Nat} (h : St g w arr ld f lc fc ch bud k) (hT : Turns [] w w') : St g w' arr ld f lc fc ch bud k := by
  obtain ⟨v, r7, r8, bR, hown⟩ := h.r
  exact ⟨Nat.le_trans h.size hT.size, ⟨v, r7, r8, hT.kept bR (by simp), hT.own hown (by simp)⟩, hT.cell h.t (by simp), hT.cell h.l0 (by simp), hT.cell h.l1 (by simp), hT.rowAll h.ring, hT.map h.map (by simp), hT.kept h.sb (by simp), h.sl, h.sf, hT.kept h.fb (by simp),
    hT.spr h.s1 (by simp) (by simp) (by simp), hT.spr h.s2 (by simp) (by simp) (by simp), hT.kept h.cb (by simp), h.cl⟩
theorem turns_past {T : List Nat} {w a b : World} (h1 : Turns [] w a) (h2 : Turns T a b) (hT : ∀ x, x ∈ T → w.heap.size ≤ x) : Turns [] w b :=
  ⟨h2.os.trans h1.os, h2.tape.trans h1.tape, h2.output.trans h1.output, Nat.le_trans h1.size h2.size, fun x hx _ => (h2.block x (Nat.lt_of_lt_of_le hx h1.size) (fun hm => by have := hT x hm; omega)).trans (h1.block x hx (by simp))⟩
/-- The state, asked by the law, as the round bears it. -/
theorem stateOf {g : Cfg} {w : World} {arr : Array Value} {ld : ByteArray} {f : List ByteArray} {lc fc : List Int} {bud : Int} {k : Nat} (h : St g w arr ld f lc fc ((List.replicate g.nS false).set g.i true) bud k) (hA : Apart g) (hk : 0 < k) (hkb : k ≤ 1000) :
    Calls Try.prog 29 #[.pointer (some ⟨g.R, 0, none⟩), .int .i64 bud, .int .i64 g.i, .int .i64 g.nS, .int .i64 k, .int .i64 (tA lc g.dr g.hi1 g.nR), .int .i64 (tB lc g.dr g.lo1 g.nR), .int .i64 (tA fc g.dr g.hi2 g.nR), .int .i64 (tB fc g.dr g.lo2 g.nR)] w fun e w' => e = .returned (.bool true) ∧ Turns [] w w' := by
  obtain ⟨v, r7, r8, bR, hown⟩ := h.r
  obtain ⟨gs, cs, rfl, _⟩ := own_some_shape hown hk
  exact stateIs_any g.R g.S1 g.S2 g.CH g.nS g.i k _ _ _ _ bud _ (some ⟨gs, 0, none⟩) cs w (bR.cell rfl) (bR.cell rfl) (bR.cell rfl) (bR.cell rfl) (bR.cell rfl) (own_row hown) (by omega) (h.cb.row _ rfl) h.cl hA.ns (fun j hj => rep_set hj) (h.s1.s.cell rfl) (h.s1.s.cell rfl) (h.s2.s.cell rfl) (h.s2.s.cell rfl)

theorem stateOf' {g : Cfg} {w : World} {arr : Array Value} {ld : ByteArray} {f : List ByteArray} {lc fc : List Int} {ch : List Bool} {bud : Int} {k : Nat} (h : St g w arr ld f lc fc ch bud k) (hA : Apart g) (hk : 0 < k) (hkb : k ≤ 1000)
    {R q n nr : Nat} {dr : List Bool} {lo1 hi1 lo2 hi2 kk bb : Int} (eR : g.R = R) (ei : g.i = q) (en : g.nS = n) (er : g.nR = nr) (ed : g.dr = dr) (e1 : g.lo1 = lo1) (e2 : g.hi1 = hi1) (e3 : g.lo2 = lo2) (e4 : g.hi2 = hi2) (ek : (k : Int) = kk) (eb : bud = bb) (ech : ch = (List.replicate n false).set q true) :
    Calls Try.prog 29 #[.pointer (some ⟨R, 0, none⟩), .int .i64 bb, .int .i64 q, .int .i64 n, .int .i64 kk, .int .i64 (tA lc dr hi1 nr), .int .i64 (tB lc dr lo1 nr), .int .i64 (tA fc dr hi2 nr), .int .i64 (tB fc dr lo2 nr)] w fun e w' => e = .returned (.bool true) ∧ Turns [] w w' := by
  subst eR ei en er ed e1 e2 e3 e4 ek eb ech
  exact stateOf h hA hk hkb

theorem block_lt_of_heap {w w' : World} {x : Nat} (h : w'.heap[x]? = w.heap[x]?) (hx : x < w.heap.size) : x < w'.heap.size := by
  have h1 : w.heap[x]? = some w.heap[x] := by simp [hx]
  rw [h1] at h
  exact (Array.getElem?_eq_some_iff.1 h).1

end Go.Proofs.Qxb6619598a
