import Derived.Test.Qxb6619598aLive
import Derived.Test.Qxb6619598aSortAny
import Derived.Sort.Walk0
namespace Go.Proofs.Qxb6619598a
open Go.RowKit Go.WideShapes Go.Maps Go.WideMaps

theorem lex_trans {a b c : List UInt8} (h1 : a < b) (h2 : b < c) : a < c := List.lt_trans h1 h2
theorem inc_lt {ks : List ByteArray} (h : inc ks) {i j : Nat} (hij : i < j) (hj : j < ks.length) : (sat ks i).toList < (sat ks j).toList := by
  induction j with
  | zero => omega
  | succ j ih =>
    have hs : (sat ks j).toList < (sat ks (j + 1)).toList := by
      have := h j hj
      rw [bytesLess_eq] at this
      simpa using this
    by_cases e : i = j
    · subst e; exact hs
    · exact lex_trans (ih (by omega) (by omega)) hs
theorem inc_ne {ks : List ByteArray} (h : inc ks) {i j : Nat} (hne : i ≠ j) (hi : i < ks.length) (hj : j < ks.length) : sat ks i ≠ sat ks j := by
  intro e
  rcases Nat.lt_or_gt_of_ne hne with hlt | hlt
  · have := inc_lt h hlt hj; rw [e] at this; exact List.lt_irrefl _ this
  · have := inc_lt h hlt hi; rw [e] at this; exact List.lt_irrefl _ this
theorem toList_inj {a b : ByteArray} (h : a.toList = b.toList) : a = b := by rw [← mkB_toList a, h, mkB_toList]
theorem keyAt_ne {ks : List ByteArray} (h : inc ks) {i j : Nat} (hne : i ≠ j) (hi : i < ks.length) (hj : j < ks.length) : keyAt ks i ≠ keyAt ks j := by
  intro e
  simp only [keyAt, Lit.string.injEq] at e
  exact inc_ne h hne hi hj (toList_inj (by rw [ByteArray.toList_eq, ByteArray.toList_eq]; exact e))
theorem Lm_map (ks : List ByteArray) (n : Nat) : IsMap (Lm ks n) := by
  induction n with
  | zero => exact ⟨[], rfl⟩
  | succ n ih =>
    obtain ⟨es, he⟩ := ih
    exact ⟨_, by rw [Lm, he]; rfl⟩
theorem Lm_at {ks : List ByteArray} (h : inc ks) (z : DataW Unit) : ∀ n a, a < n → n ≤ ks.length → (Lm ks n).atKey (keyAt ks a) z = .lit (.int .i64 a) := by
  intro n
  induction n with
  | zero => intro a ha; omega
  | succ n ih =>
    intro a ha hn
    by_cases e : a = n
    · subst e
      rw [Lm]
      exact atKey_put_same (Lm_map ks a) (by simp [keyAt, WideAt.IsKeyLit]) _ _
    · rw [Lm, atKey_put_other (keyAt_ne h e (by omega) (by omega))]
      exact ih a (by omega) (by omega)

/-- Where things lie. -/
structure Cfg where
  (B R TB LB M RB S1 S2 C1 C2 D CH SB FB nS nR cR cF i : Nat)
  ring : List ByteArray
  dr : List Bool
  (lo1 hi1 lo2 hi2 : Int)
/-- No two of them lie in one block; all lie below B. -/
structure Apart (g : Cfg) : Prop where
  nd : [g.R, g.TB, g.LB, g.M, g.RB, g.S1, g.S2, g.C1, g.C2, g.D, g.CH, g.SB, g.FB].Nodup
  lt : ∀ k, k ∈ [g.R, g.TB, g.LB, g.M, g.RB, g.S1, g.S2, g.C1, g.C2, g.D, g.CH, g.SB, g.FB] → k < g.B
  inc : inc g.ring
  nr : g.nR = g.ring.length
  rb : g.nR ≤ 1048576
  ns : g.nS ≤ 1048576
  i : g.i < g.nS
  sz : ∀ s ∈ g.ring, s.size ≤ maxLen
def Cfg.all (g : Cfg) : List Nat := [g.R, g.TB, g.LB, g.M, g.RB, g.S1, g.S2, g.C1, g.C2, g.D, g.CH, g.SB, g.FB]
theorem Apart.ne {g : Cfg} (h : Apart g) (i j : Nat) (hi : i < 13) (hj : j < 13) (hij : i ≠ j) : g.all.getD i 0 ≠ g.all.getD j 0 := by
  have hl : g.all.length = 13 := rfl
  have hn : g.all.Nodup := h.nd
  rw [List.getD_eq_getElem?_getD, List.getD_eq_getElem?_getD, List.getElem?_eq_getElem (by omega), List.getElem?_eq_getElem (by omega)]
  simp only [Option.getD_some]
  rcases Nat.lt_or_gt_of_ne hij with hlt | hlt
  · exact List.pairwise_iff_getElem.1 hn i j (by omega) (by omega) hlt
  · exact fun e => List.pairwise_iff_getElem.1 hn j i (by omega) (by omega) hlt e.symm
theorem Apart.nin {g : Cfg} (h : Apart g) (i : Nat) (js : List Nat) (hd : i < 13 ∧ ∀ j ∈ js, j < 13 ∧ i ≠ j) : g.all.getD i 0 ∉ js.map fun j => g.all.getD j 0 := by
  intro hm
  obtain ⟨j, hj, e⟩ := List.mem_map.1 hm
  exact h.ne i j hd.1 (hd.2 j hj).1 (hd.2 j hj).2 e.symm
theorem Apart.lts {g : Cfg} (h : Apart g) (js : List Nat) (hd : ∀ j ∈ js, j < 13) : ∀ x, x ∈ js.map (fun j => g.all.getD j 0) → x < g.B := by
  intro x hx
  obtain ⟨j, hj, e⟩ := List.mem_map.1 hx
  have hlt := hd j hj
  have hl : g.all.length = 13 := rfl
  rw [List.getD_eq_getElem?_getD, List.getElem?_eq_getElem (by omega)] at e
  simp only [Option.getD_some] at e
  rw [← e]
  exact h.lt _ (List.getElem_mem (by omega))
theorem Turns.own {S : List Nat} {w w' : World} (h : Turns S w w') {base e size n : Nat} {v : Value} {xs : List Value} (ho : w.ownsRow base e size v n xs) (hS : ∀ k, k ∈ S → k < base) : w'.ownsRow base e size v n xs := by
  refine ⟨ho.1, ?_⟩
  rcases ho.2 with hn | ⟨g, cap, cur, rfl, hb, hgg, r⟩
  · exact .inl hn
  · exact .inr ⟨g, cap, cur, rfl, hb, (h.block g (Array.getElem?_eq_some_iff.1 hgg).1 (fun hm => by have := hS g hm; omega)).trans hgg, r⟩
theorem Turns.map {S : List Nat} {w w' : World} (h : Turns S w w') {M n : Nat} {D : DataW Unit} (ho : w.ownsMap Try.prog 9 (plainElem Try.prog 3) M n D) (hS : M ∉ S) : w'.ownsMap Try.prog 9 (plainElem Try.prog 3) M n D := by
  obtain ⟨es, cl, h1, h2⟩ := ho
  exact ⟨es, cl, (h.block M (Array.getElem?_eq_some_iff.1 h1).1 hS).trans h1, h2⟩
theorem Turns.spr {T : List Nat} {w w' : World} (h : Turns T w w') {S C D n : Nat} {lo hi : Int} {cnt : List Int} {dr : List Bool} (ho : Spr w S C D n lo hi cnt dr) (h1 : S ∉ T) (h2 : C ∉ T) (h3 : D ∉ T) : Spr w' S C D n lo hi cnt dr :=
  ⟨h.kept ho.s h1, h.kept ho.c h2, h.kept ho.d h3, ho.nc, ho.nd, ho.sc, ho.sd, ho.cd⟩
theorem own_any_shape {w : World} {base n : Nat} {v : Value} {xs : List Value} (h : w.ownsRow base 3 1 v n xs) : ∃ a c, v = .slice a n c := by
  rcases h.2 with ⟨h1, h2⟩ | ⟨g, cap, cur, h1, _⟩
  · exact ⟨none, 0, by rw [h1, h2]⟩
  · exact ⟨_, _, h1⟩
theorem own_some_shape {w : World} {base n : Nat} {v : Value} {xs : List Value} (h : w.ownsRow base 3 1 v n xs) (hn : 0 < n) : ∃ g c, v = .slice (some ⟨g, 0, none⟩) n c ∧ base ≤ g := by
  rcases h.2 with ⟨h1, h2⟩ | ⟨g, cap, cur, h1, h2, _⟩
  · omega
  · exact ⟨_, _, h1, h2⟩
/-- The round as it stands: slot i is led by ld and followed by f. -/
structure St (g : Cfg) (w : World) (arr : Array Value) (ld : ByteArray) (f : List ByteArray) (lc fc : List Int) (ch : List Bool) (bud : Int) (k : Nat) : Prop where
  size : g.B ≤ w.heap.size
  r : ∃ v r7 r8, Blk w g.R 77 #[.pointer (some ⟨g.TB, 0, none⟩), .pointer (some ⟨g.LB, 0, none⟩), .pointer (some ⟨g.S1, 0, none⟩), .pointer (some ⟨g.S2, 0, none⟩), .int .i64 bud, .slice (some ⟨g.CH, 0, none⟩) g.nS g.nS, v, r7, r8] ∧ w.ownsRow g.B 3 1 v k (iv (List.replicate k (g.i : Int)))
  t : w.cell? ⟨g.TB, 2, none⟩ = some (.slice (some ⟨g.SB, 0, none⟩) g.nS g.nS)
  l0 : w.cell? ⟨g.LB, 0, none⟩ = some (.slice (some ⟨g.RB, 0, none⟩) g.nR g.cR)
  l1 : w.cell? ⟨g.LB, 1, none⟩ = some (.map (some g.M))
  ring : Row w (some ⟨g.RB, 0, none⟩) (sv g.ring)
  map : w.ownsMap Try.prog 9 (plainElem Try.prog 3) g.M g.nR (Lm g.ring g.nR)
  sb : Blk w g.SB 49 arr
  sl : arr[g.i * 5 + 1]? = some (.string ld)
  sf : arr[g.i * 5 + 3]? = some (.slice (some ⟨g.FB, 0, none⟩) f.length g.cF)
  fb : Blk w g.FB 9 (sv f).toArray
  s1 : Spr w g.S1 g.C1 g.D g.nR g.lo1 g.hi1 lc g.dr
  s2 : Spr w g.S2 g.C2 g.D g.nR g.lo2 g.hi2 fc g.dr
  cb : Blk w g.CH 4 (bv ch).toArray
  cl : g.nS = ch.length

end Go.Proofs.Qxb6619598a
