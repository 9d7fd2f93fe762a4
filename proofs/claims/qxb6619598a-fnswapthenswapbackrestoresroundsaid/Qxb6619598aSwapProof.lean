import Derived.Test.Qxb6619598aOpen
namespace Go.Proofs.Qxb6619598a.swapLaw
open Go.ChangeShapes Go.WideShapes Go.ChangeAt Go.RowKit

theorem own : ownKnob Try.prog.godebug = none := by kernel_rfl
theorem laidOut : laidOutB Try.prog = true := by kernel_rfl

set_option maxRecDepth 100000 in
theorem pair_of {H : Type} {enc : TypeId × Value → H} {W : World} {r : Reach} {base : Nat} {v : Value} {d : DataW H} {p : List MemPlace} (hv : Value.okWide Try.prog W r base 43 v) (h : DataW.Trod enc Try.prog W 0 (fun _ => true) true 43 v d p) : ∃ x y : Int, v = .agg #[.int .i64 x, .int .i64 y] := by
  have hsz : Try.prog.cellsOf 43 = 2 := by kernel_rfl
  have hs3 : Try.prog.cellsOf 3 = 1 := by kernel_rfl
  obtain ⟨c0, c1, rfl⟩ : ∃ c0 c1, v = .agg #[c0, c1] := by
    simp only [Value.okWide, Try.underlying43] at hv
    obtain ⟨cs, h1, h2, _⟩ := hv
    rw [hsz] at h2
    obtain ⟨l⟩ := cs
    match l, h2 with
    | [c0, c1], _ => exact ⟨c0, c1, h1⟩
  obtain ⟨fuel, hf⟩ := h
  obtain ⟨xs, m, _, _, _, hl, hx⟩ := DataW.trod_array Try.underlying43 hf
  have e0 := hx 0 (by omega)
  have e1 := hx 1 (by omega)
  rw [hs3] at e0 e1
  obtain ⟨y0, hy0⟩ : ∃ y, xs[0]? = some y := ⟨xs[0], by simp [hl]⟩
  obtain ⟨y1, hy1⟩ : ∃ y, xs[1]? = some y := ⟨xs[1], by simp [hl]⟩
  rw [hy0] at e0
  rw [hy1] at e1
  obtain ⟨x, hx0, _⟩ := DataW.trod_int Try.underlying3 e0
  obtain ⟨y, hx1, _⟩ := DataW.trod_int Try.underlying3 e1
  simp [Value.cells] at hx0 hx1
  exact ⟨x, y, by rw [hx0, hx1]⟩

set_option maxRecDepth 100000 in
theorem lifted (os : Os) (started : os.Started) (H : Type) (enc : TypeId × Value → H) :
    ReturnsInHanded {} Try.checked os 5 .any (Rows.fnSwapThenSwapBackRestoresRoundSpec.pre6 enc Try.prog Try.f5 Rows.fnSwapThenSwapBackRestoresRoundRow.domain false) (Rows.fnSwapThenSwapBackRestoresRoundSpec.post enc Try.prog Try.f5 false true false false) := by
  refine returnsInHanded_of_change (C := Try.checked) own started (by kernel_rfl) Try.func5
    (ChangeSpec.witness6 (enc := enc) (C := Try.checked) false ⟨#[], #[.slice none 0 0, .slice none 0 0, .slice none 0 0, .int .i64 0, .int .i64 0, .slice none 0 0, .slice none 0 0, .slice none 0 0, .agg #[.int .i64 0, .int .i64 0], .agg #[.int .i64 0, .int .i64 0], .int .i64 0], []⟩ 8 (by kernel_rfl) (by kernel_rfl) (by kernel_rfl) (by kernel_rfl)) ?_
  intro W base args ds gs before hval0 hW hcnd _
  have hval : ∀ (j : Nat) t v, Try.f5.params[j]? = some t → args[j]? = some v → Value.okWide Try.prog W .any base t v := hval0
  have hW' := hW
  obtain ⟨p, q, hA0, hV, rfl, hfz, hnd⟩ := hW
  have hA : DataW.TrodAll enc Try.prog W 0 (fun _ => true) true Try.f5.params.toList args.toList ds p := hA0
  rw [Try.params5] at hA hval
  obtain ⟨v0, vs0, d0, ds0, p0, q0, hargs, rfl, rfl, h0, r0⟩ := trodAll_cons hA
  obtain ⟨v1, vs1, d1, ds1, p1, q1, rfl, rfl, rfl, h1, r1⟩ := trodAll_cons r0
  obtain ⟨v2, vs2, d2, ds2, p2, q2, rfl, rfl, rfl, h2, r2⟩ := trodAll_cons r1
  obtain ⟨v3, vs3, d3, ds3, p3, q3, rfl, rfl, rfl, h3, r3⟩ := trodAll_cons r2
  obtain ⟨v4, vs4, d4, ds4, p4, q4, rfl, rfl, rfl, h4, r4⟩ := trodAll_cons r3
  obtain ⟨v5, vs5, d5, ds5, p5, q5, rfl, rfl, rfl, h5, r5⟩ := trodAll_cons r4
  obtain ⟨v6, vs6, d6, ds6, p6, q6, rfl, rfl, rfl, h6, r6⟩ := trodAll_cons r5
  obtain ⟨v7, vs7, d7, ds7, p7, q7, rfl, rfl, rfl, h7, r7⟩ := trodAll_cons r6
  obtain ⟨v8, vs8, d8, ds8, p8, q8, rfl, rfl, rfl, h8, r8⟩ := trodAll_cons r7
  obtain ⟨v9, vs9, d9, ds9, p9, q9, rfl, rfl, rfl, h9, r9⟩ := trodAll_cons r8
  obtain ⟨v10, vs10, d10, ds10, p10, q10, rfl, rfl, rfl, h10, r10⟩ := trodAll_cons r9
  obtain ⟨rfl, rfl, rfl⟩ := trodAll_nil r10
  obtain rfl : args = #[v0, v1, v2, v3, v4, v5, v6, v7, v8, v9, v10] := by cases args; simp_all
  obtain ⟨rfl, rfl⟩ := trodVars_none hV
  obtain ⟨a0, l0, c0, rfl⟩ := okWide_slice Try.underlying22 (hval 0 22 v0 rfl rfl)
  obtain ⟨a1, l1, c1, rfl⟩ := okWide_slice Try.underlying22 (hval 1 22 v1 rfl rfl)
  obtain ⟨a2, l2, c2, rfl⟩ := okWide_slice Try.underlying42 (hval 2 42 v2 rfl rfl)
  obtain ⟨a5, l5, c5, rfl⟩ := okWide_slice Try.underlying28 (hval 5 28 v5 rfl rfl)
  obtain ⟨a6, l6, c6, rfl⟩ := okWide_slice Try.underlying28 (hval 6 28 v6 rfl rfl)
  obtain ⟨a7, l7, c7, rfl⟩ := okWide_slice Try.underlying29 (hval 7 29 v7 rfl rfl)
  obtain ⟨i3, rfl⟩ := okWide_int Try.underlying3 (hval 3 3 v3 rfl rfl)
  obtain ⟨i4, rfl⟩ := okWide_int Try.underlying3 (hval 4 3 v4 rfl rfl)
  obtain ⟨i10, rfl⟩ := okWide_int Try.underlying3 (hval 10 3 v10 rfl rfl)
  obtain ⟨x0, x1, rfl⟩ := pair_of (hval 8 43 v8 rfl rfl) h8
  obtain ⟨y0, y1, rfl⟩ := pair_of (hval 9 43 v9 rfl rfl) h9
  have k0 := h0
  have lt0 : ∀ x ∈ p0, x.block < W.heap.size := by obtain ⟨m, hm⟩ := k0; exact DataW.trod_lt m _ _ _ hm
  have k1 := h1
  have lt1 : ∀ x ∈ p1, x.block < W.heap.size := by obtain ⟨m, hm⟩ := k1; exact DataW.trod_lt m _ _ _ hm
  have k2 := h2
  have lt2 : ∀ x ∈ p2, x.block < W.heap.size := by obtain ⟨m, hm⟩ := k2; exact DataW.trod_lt m _ _ _ hm
  have k3 := h3
  have lt3 : ∀ x ∈ p3, x.block < W.heap.size := by obtain ⟨m, hm⟩ := k3; exact DataW.trod_lt m _ _ _ hm
  have k4 := h4
  have lt4 : ∀ x ∈ p4, x.block < W.heap.size := by obtain ⟨m, hm⟩ := k4; exact DataW.trod_lt m _ _ _ hm
  have k5 := h5
  have lt5 : ∀ x ∈ p5, x.block < W.heap.size := by obtain ⟨m, hm⟩ := k5; exact DataW.trod_lt m _ _ _ hm
  have k6 := h6
  have lt6 : ∀ x ∈ p6, x.block < W.heap.size := by obtain ⟨m, hm⟩ := k6; exact DataW.trod_lt m _ _ _ hm
  have k7 := h7
  have lt7 : ∀ x ∈ p7, x.block < W.heap.size := by obtain ⟨m, hm⟩ := k7; exact DataW.trod_lt m _ _ _ hm
  have k8 := h8
  have lt8 : ∀ x ∈ p8, x.block < W.heap.size := by obtain ⟨m, hm⟩ := k8; exact DataW.trod_lt m _ _ _ hm
  have k9 := h9
  have lt9 : ∀ x ∈ p9, x.block < W.heap.size := by obtain ⟨m, hm⟩ := k9; exact DataW.trod_lt m _ _ _ hm
  have k10 := h10
  have lt10 : ∀ x ∈ p10, x.block < W.heap.size := by obtain ⟨m, hm⟩ := k10; exact DataW.trod_lt m _ _ _ hm
  obtain ⟨s0, ⟨z0, w0, n0⟩, m0⟩ : ∃ ks, IsRow W a0 l0 c0 (sv ks) ∧ ∀ s ∈ ks, s.size ≤ maxLen := by obtain ⟨fuel, hf⟩ := h0; exact strs_of hf
  obtain ⟨s1, ⟨z1, w1, n1⟩, _⟩ : ∃ ks, IsRow W a1 l1 c1 (sv ks) ∧ ∀ s ∈ ks, s.size ≤ maxLen := by obtain ⟨fuel, hf⟩ := h1; exact strs_of hf
  obtain ⟨fs, z2, w2⟩ : ∃ fs, l2 = fs.length ∧ FRow W a2 fs := by obtain ⟨fuel, hf⟩ := h2; exact rows_of hf
  obtain ⟨s5, z5, w5, n5⟩ : ∃ zs, IsRow W a5 l5 c5 (iv zs) := by obtain ⟨fuel, hf⟩ := h5; exact ints_of hf
  obtain ⟨s6, z6, w6, n6⟩ : ∃ zs, IsRow W a6 l6 c6 (iv zs) := by obtain ⟨fuel, hf⟩ := h6; exact ints_of hf
  obtain ⟨s7, z7, w7, n7⟩ : ∃ zs, IsRow W a7 l7 c7 (bv zs) := by obtain ⟨fuel, hf⟩ := h7; exact bools_of hf
  have hIn : In W a0 a1 a2 a5 a6 a7 l0 c0 l1 c1 l2 c2 l5 c5 l6 c6 l7 c7 s0 s1 fs s5 s6 s7 :=
    ⟨by rw [z0, sv_len], by rw [z1, sv_len], z2, by rw [z5, iv_len], by rw [z6, iv_len], by rw [z7, bv_len], w0, w1, w2, w5, w6, w7, n0, n5, n6, n7, m0⟩
  clear hA0 hval0
  refine (law_any a0 a1 a2 a5 a6 a7 l0 c0 l1 c1 l2 c2 l5 c5 l6 c6 l7 c7 s0 s1 fs s5 s6 s7 i3 i4 x0 x1 y0 y1 i10 W hIn).mono fun e W' ⟨he, hT⟩ => ?_
  subst he
  have bel : Below W.heap.size W W' := hT.below (Below.refl _ _) (Nat.le_refl _) (by simp)
  exact ⟨_, rfl, _, _, _, [], _, [], hW', trodAll_mk1 (shut_bool Try.underlying4 _), (trodAll_cons_mk (Below.trod laidOut (by kernel_rfl) (of_decide_eq_true (by kernel_rfl)) k0 bel lt0) (trodAll_cons_mk (Below.trod laidOut (by kernel_rfl) (of_decide_eq_true (by kernel_rfl)) k1 bel lt1) (trodAll_cons_mk (Below.trod laidOut (by kernel_rfl) (of_decide_eq_true (by kernel_rfl)) k2 bel lt2) (trodAll_cons_mk (Below.trod laidOut (by kernel_rfl) (of_decide_eq_true (by kernel_rfl)) k3 bel lt3) (trodAll_cons_mk (Below.trod laidOut (by kernel_rfl) (of_decide_eq_true (by kernel_rfl)) k4 bel lt4) (trodAll_cons_mk (Below.trod laidOut (by kernel_rfl) (of_decide_eq_true (by kernel_rfl)) k5 bel lt5) (trodAll_cons_mk (Below.trod laidOut (by kernel_rfl) (of_decide_eq_true (by kernel_rfl)) k6 bel lt6) (trodAll_cons_mk (Below.trod laidOut (by kernel_rfl) (of_decide_eq_true (by kernel_rfl)) k7 bel lt7) (trodAll_cons_mk (Below.trod laidOut (by kernel_rfl) (of_decide_eq_true (by kernel_rfl)) k8 bel lt8) (trodAll_cons_mk (Below.trod laidOut (by kernel_rfl) (of_decide_eq_true (by kernel_rfl)) k9 bel lt9) (trodAll_cons_mk (Below.trod laidOut (by kernel_rfl) (of_decide_eq_true (by kernel_rfl)) k10 bel lt10) trodAll_mk0))))))))))), rfl, bel.frame _, fun h => by cases h⟩

theorem over : Rows.fnSwapThenSwapBackRestoresRoundRow.holds Try.pinned (OpenSpec.ofChange Rows.fnSwapThenSwapBackRestoresRoundSpec) :=
  OpenClaim.holds_of_wide 5 Try.f5 rfl rfl rfl rfl rfl rfl rfl ⟨rfl, rfl, rfl, rfl, rfl⟩ rfl rfl rfl rfl rfl (by kernel_rfl) Try.func5 (by kernel_rfl)
    (of_decide_eq_true (by kernel_rfl)) (by unfold Func.isWrapper; first | (rw [if_pos (by decide +kernel)]; kernel_rfl) | (rw [if_neg (by decide +kernel)]; exact ⟨rfl, rfl⟩))
    (fun os started H enc _ => lifted os started H enc)

end Go.Proofs.Qxb6619598a.swapLaw

namespace Go.Proofs.Qxb6619598a
/-- THE STATEMENT. -/
theorem fnSwapThenSwapBackRestoresRound_holds : Rows.FnSwapThenSwapBackRestoresRoundSaid := swapLaw.over
end Go.Proofs.Qxb6619598a
