import Derived.Test.Qxb6619598aSt
import Derived.Deep.RegionHeld3
namespace Go.Proofs.Qxb6619598a
open Go.RowKit Go.WideShapes Go.Maps Go.WideMaps

theorem look_any {g : Cfg} (hA : Apart g) {w : World} (hm : w.ownsMap Try.prog 9 (plainElem (H := Unit) Try.prog 3) g.M g.nR (Lm g.ring g.nR)) {a : Nat} (ha : a < g.nR) {ld : ByteArray} (hl : sat g.ring a = ld) :
    (Instr.lookup 27 (.map (some g.M)) (.string ld) false).run Try.prog w = .ok (.int .i64 a) w := by
  have hkey : keyOf Try.prog 9 (.string ld) = some (keyAt g.ring a) := by rw [← hl]; exact key_ok hA.sz a
  obtain ⟨c, hrun, hat, _⟩ := hm.lookup_int law Try.underlying27 Try.underlying3 (zero3 _) hkey
  rw [Lm_at hA.inc _ g.nR a ha (by rw [hA.nr]; exact Nat.le_refl _)] at hat
  simp only [DataW.lit.injEq, Lit.int.injEq, true_and] at hat
  rw [hrun, hat]

theorem own_block_ge {w : World} {base n : Nat} {v : Value} {xs : List Value} (h : w.ownsRow base 3 1 v n xs) (x : Nat) (hx : v.ownBlock = some x) : base ≤ x := by
  rcases h.2 with ⟨h1, _⟩ | ⟨g, cap, cur, h1, h2, _⟩
  · rw [h1] at hx; simp [Value.ownBlock] at hx
  · rw [h1] at hx; simp [Value.ownBlock] at hx; omega
theorem Spr.drewN {w : World} {S C D n : Nat} {lo hi : Int} {cnt : List Int} {dr : List Bool} (h : Spr w S C D n lo hi cnt dr) (q : Nat) : Spr (w.drewN q) S C D n lo hi cnt dr := ⟨h.s, h.c, h.d, h.nc, h.nd, h.sc, h.sd, h.cd⟩
theorem St.drewN {g : Cfg} {w : World} {arr : Array Value} {ld : ByteArray} {f : List ByteArray} {lc fc : List Int} {ch : List Bool} {bud : Int} {k : Nat} (h : St g w arr ld f lc fc ch bud k) (q : Nat) : St g (w.drewN q) arr ld f lc fc ch bud k :=
  ⟨h.size, h.r, h.t, h.l0, h.l1, h.ring, h.map, h.sb, h.sl, h.sf, h.fb, h.s1.drewN q, h.s2.drewN q, h.cb, h.cl⟩

set_option maxHeartbeats 1000000 in
set_option maxRecDepth 100000 in
theorem swap_any (g : Cfg) (hA : Apart g) (arr : Array Value) (ld : ByteArray) (f : List ByteArray) (lc fc : List Int) (ch : List Bool) (bud : Int) (k a b : Nat) (w : World) (h : St g w arr ld f lc fc ch bud k)
    (ha : a < g.nR) (hb : b < g.nR) (hab : a ≠ b) (hl : sat g.ring a = ld) (hix : 0 ≤ idx f (sat g.ring b)) (hil : idx f (sat g.ring b) < f.length) (hf : f.length ≤ 1048576) (hk : k ≤ 1000)
    (f1 : Fit lc g.lo1 g.hi1) (f1' : Fit (lc.set a (iat lc a - 1)) g.lo1 g.hi1) (f2 : Fit fc g.lo2 g.hi2) (f2' : Fit (fc.set b (iat fc b - 1)) g.lo2 g.hi2) :
    Calls Try.prog 35 #[.pointer (some ⟨g.R, 0, none⟩), .int .i64 g.i, .int .i64 b] w fun e w' => e = .returned (.tuple #[]) ∧
      St g w' (arr.setIfInBounds (g.i * 5 + 1) (.string (sat g.ring b))) (sat g.ring b) (srt (f.set (idx f (sat g.ring b)).toNat ld)) (passed lc a b) (passed fc b a) (ch.set g.i true) (wrap64 (bud - 1)) (k + 1) ∧
      ∃ T, (∀ x, x ∈ T → x ∈ [g.R, g.SB, g.FB, g.S1, g.S2, g.C1, g.C2, g.CH] ∨ g.B ≤ x) ∧ Turns T w w' := by
  obtain ⟨B, R, TB, LB, M, RB, S1, S2, C1, C2, D, CH, SB, FB, nS, nR, cR, cF, i, ring, dr, lo1, hi1, lo2, hi2⟩ := g
  simp only at *
  have hnd := hA.nd
  simp only [List.nodup_cons, List.mem_cons, List.not_mem_nil, or_false, not_or, List.nodup_nil, and_true, not_false_eq_true] at hnd
  have HND := hide hnd
  have HNR := hide (show nR = ring.length from hA.nr)
  have HA := hide hA
  have H := hide h
  have hiz : (i : Int) < (nS : Int) := by have := hA.i; simp only at this; omega
  have hbz : (b : Int) < (nR : Int) := by omega
  obtain ⟨v, r7, r8, hR, hown⟩ := h.r
  have c0 : w.cell? ⟨R, 0, none⟩ = some (.pointer (some ⟨TB, 0, none⟩)) := hR.cell rfl
  have c1 : w.cell? ⟨R, 1, none⟩ = some (.pointer (some ⟨LB, 0, none⟩)) := hR.cell rfl
  have ct : w.cell? ⟨TB, 2, none⟩ = some (.slice (some ⟨SB, 0, none⟩) nS nS) := h.t
  have cl0 : w.cell? ⟨LB, 0, none⟩ = some (.slice (some ⟨RB, 0, none⟩) nR cR) := h.l0
  have cl1 : w.cell? ⟨LB, 1, none⟩ = some (.map (some M)) := h.l1
  have cs1 : w.cell? ⟨SB, i * 5 + 1, none⟩ = some (.string ld) := h.sb.cell h.sl
  have cs3 : w.cell? ⟨SB, i * 5 + 3, none⟩ = some (.slice (some ⟨FB, 0, none⟩) f.length cF) := h.sb.cell h.sf
  have hlook : ∀ q, (Instr.lookup 27 (.map (some M)) (.string ld) false).run Try.prog (w.drewN q) = .ok (.int .i64 a) (w.drewN q) := fun q => look_any hA (w := w.drewN q) h.map ha hl
  have HOWN := hide hown
  have HRB := hide hR
  have HL := hide hl
  have HIX := hide hix
  have HIL := hide hil
  have HF1 := hide f1
  have HF1' := hide f1'
  have HF2 := hide f2
  have HF2' := hide f2'
  have HAB := hide hab
  clear h hA hnd hown hR hl hix hil f1 f1' f2 f2' hab
  generalize hm : f.length = m at cs3 hf
  have HM := hide hm
  clear hm
  go_enter Try.func35, Try.ntmps35
  go_wp2_with fail
  go_quiet (fail)
  go_wp2_with fail
  have H2 := hide (H.out.drewN nq)
  have HT2 := hide ((Turns.refl [] w).drewN nq)
  have c1 : (w.drewN nq).cell? ⟨R, 1, none⟩ = some (.pointer (some ⟨LB, 0, none⟩)) := c1
  have cl0 : (w.drewN nq).cell? ⟨LB, 0, none⟩ = some (.slice (some ⟨RB, 0, none⟩) nR cR) := cl0
  have cs1 : (w.drewN nq).cell? ⟨SB, i * 5 + 1, none⟩ = some (.string ld) := cs1
  have cs3 : (w.drewN nq).cell? ⟨SB, i * 5 + 3, none⟩ = some (.slice (some ⟨FB, 0, none⟩) m cF) := cs3
  clear H c0 ct cl1 hlook HOWN HRB
  generalize w.drewN nq = w2 at *
  obtain ⟨b3, o3, e3, _, cb⟩ := H2.out.ring b _ (sv_get (by rw [← HNR.out]; exact hb))
  simp only [Option.some.injEq, Addr.mk.injEq, and_true] at e3
  obtain ⟨rfl, rfl⟩ := e3
  rw [Nat.zero_add] at cb
  have hcall := fun (w' : World) (hr : Row w' (some ⟨FB, 0, none⟩) (sv f)) => slicesIndex_any (some ⟨FB, 0, none⟩) m cF f (sat ring b) w' HM.out.symm hf hr
  have HROW := hide (show Row w2.drew (some ⟨FB, 0, none⟩) (sv f) from H2.out.fb.drew.row _ rfl)
  obtain ⟨p, hp⟩ : ∃ p : Nat, idx f (sat ring b) = p := ⟨(idx f (sat ring b)).toNat, by have := HIX.out; omega⟩
  have hpm : p < m := by have h1 := HIL.out; have h2 := HM.out; omega
  have hpz : (p : Int) < (m : Int) := by omega
  rw [hp] at hcall
  have HP := hide hp
  clear hp
  generalize hy : sat ring b = y at cb hcall
  have HCALL := hide hcall
  clear hcall
  have HY := hide hy
  clear hy
  have n1 : FB ≠ SB := fun e => by have := HND.out; rw [e] at this; simp at this
  have n2 : FB ≠ R := fun e => by have := HND.out; rw [e] at this; simp at this
  have n3 : FB ≠ LB := fun e => by have := HND.out; rw [e] at this; simp at this
  have n4 : FB ≠ RB := fun e => by have := HND.out; rw [e] at this; simp at this
  have ff : w2.frozen? ⟨FB, p, none⟩ = false := H2.out.fb.frozen _
  have fc0 : w2.cell? ⟨FB, p, none⟩ = some (.string (sat f p)) := H2.out.fb.cell (by simpa using sv_get (by have h2 := HM.out; omega))
  go_cut [6] (fun s6 wx => s6 = .pointer (some ⟨SB, i * 5, none⟩) ∧ wx = (w2.setCell ⟨FB, p, none⟩ (.string ld)).drew)
  case first =>
    go_region_held3 (fun w' => w'.cell? ⟨SB, i * 5 + 3, none⟩ = some (.slice (some ⟨FB, 0, none⟩) m cF) ∧ w'.cell? ⟨SB, i * 5 + 1, none⟩ = some (.string ld) ∧ w'.cell? ⟨R, 1, none⟩ = some (.pointer (some ⟨LB, 0, none⟩)) ∧ w'.cell? ⟨LB, 0, none⟩ = some (.slice (some ⟨RB, 0, none⟩) nR cR) ∧ w'.cell? ⟨RB, b, none⟩ = some (.string y)) (go_keep)
      (first | (go_at_call 41; refine (HCALL.out _ HROW.out).mono ?_; rintro e w' ⟨rfl, rfl⟩))
    go_wp2_with fail
    go_meet
    exact ⟨rfl, rfl⟩
  case rest =>
    obtain ⟨rfl, rfl⟩ := hcut
    clear HCALL HROW ff fc0 c1 cl0 cs1 cs3 cb n1 n2 n3 n4
    have h2 := H2.out
    obtain ⟨v, r7, r8, hR2, hown2⟩ := h2.r
    obtain ⟨va, vc, rfl⟩ := own_any_shape hown2
    have ap := HA.out
    -- behind the store into the followers
    have hF3 := (h2.fb.set p (.string ld)).drew
    rw [sv_set] at hF3
    have hT3 := ((Turns.refl [FB] w2).setCell (p := ⟨FB, p, none⟩) (by simp) (.string ld)).drew
    generalize (w2.setCell ⟨FB, p, none⟩ (.string ld)).drew = w3 at hF3 hT3
    have cs3 : w3.cell? ⟨SB, i * 5 + 3, none⟩ = some (.slice (some ⟨FB, 0, none⟩) m cF) := hT3.cell (h2.sb.cell (by rw [← HM.out]; exact h2.sf)) (ap.nin 11 [12] (by decide))
    have hsort := sort_any FB m cF (f.set p ld) w3 hF3 (by rw [List.length_set]; exact HM.out.symm) hf
    have HH2 := hide h2
    have HR2 := hide hR2
    have HO2 := hide hown2
    have HT3 := hide hT3
    clear h2 hR2 hown2 hT3 hF3 ap
    go_wp2_with fail
    refine hsort.mono ?_
    rintro e w4 ⟨rfl, hT4, hF4⟩
    clear hsort
    have ap := HA.out
    have hT4' := HT3.out.trans hT4
    have hR4 := hT4'.kept HR2.out (ap.nin 0 [12] (by decide))
    have hS4 := hT4'.kept HH2.out.sb (ap.nin 11 [12] (by decide))
    have c1 : w4.cell? ⟨R, 1, none⟩ = some (.pointer (some ⟨LB, 0, none⟩)) := hR4.cell rfl
    have cl0 : w4.cell? ⟨LB, 0, none⟩ = some (.slice (some ⟨RB, 0, none⟩) nR cR) := hT4'.cell HH2.out.l0 (ap.nin 2 [12] (by decide))
    obtain ⟨b3, o3, e3, _, cb⟩ := (hT4'.row HH2.out.ring (fun b off e => by cases e; exact ap.nin 4 [12] (by decide))) b _ (sv_get (by rw [← HNR.out]; exact hb))
    simp only [Option.some.injEq, Addr.mk.injEq, and_true] at e3
    obtain ⟨rfl, rfl⟩ := e3
    rw [Nat.zero_add, HY.out] at cb
    have cs1 : w4.cell? ⟨SB, i * 5 + 1, none⟩ = some (.string ld) := hS4.cell HH2.out.sl
    have fs1 : w4.frozen? ⟨SB, i * 5 + 1, none⟩ = false := hS4.frozen _
    have c2 : ∀ u, (w4.setCell ⟨SB, i * 5 + 1, none⟩ u).cell? ⟨R, 2, none⟩ = some (.pointer (some ⟨S1, 0, none⟩)) := fun u => (hR4.setOther (a := ⟨SB, i * 5 + 1, none⟩) (ap.ne 0 11 (by decide) (by decide) (by decide)) u).cell rfl
    have HT4 := hide hT4'
    have HF4 := hide hF4
    have HR4 := hide hR4
    have HS4 := hide hS4
    clear hT4 hT4' hF4 hR4 hS4 HT3 cs3 ap
    go_wp2_with fail
    have ap := HA.out
    have hS5 := HS4.out.set (i * 5 + 1) (.string y)
    have hR5 := HR4.out.setOther (a := ⟨SB, i * 5 + 1, none⟩) (ap.ne 0 11 (by decide) (by decide) (by decide)) (.string y)
    have hF5 := HF4.out.setOther (a := ⟨SB, i * 5 + 1, none⟩) (ap.ne 12 11 (by decide) (by decide) (by decide)) (.string y)
    have hT5 := ((HT4.out.mono (T := [SB, FB]) (by simp)).setCell (p := ⟨SB, i * 5 + 1, none⟩) (by simp) (.string y))
    generalize w4.setCell ⟨SB, i * 5 + 1, none⟩ (.string y) = w5 at hS5 hR5 hF5 hT5
    clear c2 cs1 fs1 cb cl0 c1 HT4 HF4 HR4 HS4
    refine (pass_any S1 C1 D nR a b lo1 hi1 lc dr w5 (hT5.spr HH2.out.s1 (ap.nin 5 [11, 12] (by decide)) (ap.nin 7 [11, 12] (by decide)) (ap.nin 9 [11, 12] (by decide))) ha hb HAB.out HF1.out HF1'.out).mono ?_
    rintro e w6 ⟨rfl, hT6, hs1⟩
    have hS6 := hT6.kept hS5 (ap.nin 11 [5, 7] (by decide))
    have hR6 := hT6.kept hR5 (ap.nin 0 [5, 7] (by decide))
    have hF6 := hT6.kept hF5 (ap.nin 12 [5, 7] (by decide))
    have hT6' := (hT5.mono (T := [SB, FB, S1, C1]) (by simp +contextual [or_imp])).trans (hT6.mono (by simp +contextual))
    have c3 : w6.cell? ⟨R, 3, none⟩ = some (.pointer (some ⟨S2, 0, none⟩)) := hR6.cell rfl
    have hpass := pass_any S2 C2 D nR b a lo2 hi2 fc dr w6 (hT6'.spr HH2.out.s2 (ap.nin 6 [11, 12, 5, 7] (by decide)) (ap.nin 8 [11, 12, 5, 7] (by decide)) (ap.nin 9 [11, 12, 5, 7] (by decide))) hb ha (fun e => HAB.out e.symm) HF2.out HF2'.out
    have K1 := hide hS6
    have K2 := hide hR6
    have K3 := hide hF6
    have K4 := hide hT6'
    have K5 := hide hs1
    clear hS5 hR5 hF5 hT5 hT6 hs1 hS6 hR6 hF6 hT6' ap
    go_wp2_with fail
    refine hpass.mono ?_
    rintro e w7 ⟨rfl, hT7, hs2⟩
    clear hpass c3
    have ap := HA.out
    have hS7 := hT7.kept K1.out (ap.nin 11 [6, 8] (by decide))
    have hR7 := hT7.kept K2.out (ap.nin 0 [6, 8] (by decide))
    have hF7 := hT7.kept K3.out (ap.nin 12 [6, 8] (by decide))
    have hs17 := hT7.spr K5.out (ap.nin 5 [6, 8] (by decide)) (ap.nin 7 [6, 8] (by decide)) (ap.nin 9 [6, 8] (by decide))
    have hT7' := (K4.out.mono (T := [SB, FB, S1, C1, S2, C2]) (by simp +contextual [or_imp])).trans (hT7.mono (by simp +contextual))
    have hown7 := hT7'.own HO2.out (ap.lts [11, 12, 5, 7, 6, 8] (by decide))
    have c6 : w7.cell? ⟨R, 6, none⟩ = some (.slice va k vc) := hR7.cell rfl
    have hRB : R < B := ap.lt R (by simp)
    have hBw : B ≤ w7.heap.size := Nat.le_trans HH2.out.size hT7'.size
    have hkeep : ∀ o w8, (w7.alloc o).grownBy w8 (Value.slice va k vc).ownBlock → ∀ x, x < B → w8.heap[x]? = w7.heap[x]? := fun o w8 hg x hx =>
      (hg.block x (by simp; omega) (fun e => by have := own_block_ge hown7 x e.symm; omega)).trans (Below.heap_alloc w7 o x (by omega))
    have HKEEP := hide hkeep
    have K6 := hide hown7
    have L1 := hide hS7
    have L2 := hide hR7
    have L3 := hide hF7
    have L4 := hide hT7'
    have L5 := hide hs17
    have L6 := hide hs2
    have HBW := hide hBw
    clear hkeep hown7 hS7 hR7 hF7 hT7' hs17 hs2 hT7 K1 K2 K3 K4 K5 ap
    obtain ⟨i0, hi, hz0, hz1, hz2⟩ := info_parts Try.info3
    go_wp2_with (first
      | (at_builtin; (refine wpList_append_own _ rfl _ _ 28 rfl B 3 i0 (.int .i64 0) 1 8 Try.underlying28 hi hz0 hz1 hz2 rfl (by decide) _ _ _ rfl (K6.out.alloc _) ⟨w7.heap.size, 0, none⟩ 1 1 [.int .i64 i] rfl rfl (cell_one_new _ _ _) (ints_oneCell .i64 [(i : Int)]) (by unfold maxLen; omega) (by omega) (Nat.le_trans hBw (by simp)) ?_; intro v' w8 hown' hgrow hnil; clear hnil; obtain ⟨gg, cc, rfl, hgg⟩ := own_some_shape hown' (by omega); have f6 : w8.frozen? ⟨R, 6, none⟩ = false := (World.frozen?_of_block (w := w7) (HKEEP.out _ _ hgrow R hRB)).trans (L2.out.frozen _); have c6' : w8.cell? ⟨R, 6, none⟩ = some (.slice va k vc) := (World.cell?_of_block (w := w7) (HKEEP.out _ _ hgrow R hRB)).trans c6))
      | fail)
    clear f6 c6' c6
    have ap := HA.out
    have hkp : ∀ {x : Nat} {t : TypeId} {cs : Array Value}, Blk w7 x t cs → x < B → Blk w8 x t cs := fun {x t cs} hbk hx => (HKEEP.out _ _ hgrow x hx).trans hbk
    have hne6 : ∀ {x : Nat} {t : TypeId} {cs : Array Value}, Blk w8 x t cs → x ≠ R → Blk (w8.setCell ⟨R, 6, none⟩ (.slice (some ⟨gg, 0, none⟩) (k + 1) cc)) x t cs := fun {x t cs} hbk hx => hbk.setOther (a := ⟨R, 6, none⟩) hx _
    have lts := ap.lt
    have hR9 := (hkp L2.out (lts R (by simp))).set 6 (.slice (some ⟨gg, 0, none⟩) (k + 1) cc)
    have hS9 := hne6 (hkp L1.out (lts SB (by simp))) (ap.ne 11 0 (by decide) (by decide) (by decide))
    have hF9 := hne6 (hkp L3.out (lts FB (by simp))) (ap.ne 12 0 (by decide) (by decide) (by decide))
    have hC7 := L4.out.kept HH2.out.cb (ap.nin 10 [11, 12, 5, 7, 6, 8] (by decide))
    have hC9 := hne6 (hkp hC7 (lts CH (by simp))) (ap.ne 10 0 (by decide) (by decide) (by decide))
    have hs19 : Spr (w8.setCell ⟨R, 6, none⟩ (.slice (some ⟨gg, 0, none⟩) (k + 1) cc)) S1 C1 D nR lo1 hi1 (passed lc a b) dr :=
      ⟨hne6 (hkp L5.out.s (lts S1 (by simp))) (ap.ne 5 0 (by decide) (by decide) (by decide)), hne6 (hkp L5.out.c (lts C1 (by simp))) (ap.ne 7 0 (by decide) (by decide) (by decide)), hne6 (hkp L5.out.d (lts D (by simp))) (ap.ne 9 0 (by decide) (by decide) (by decide)), L5.out.nc, L5.out.nd, L5.out.sc, L5.out.sd, L5.out.cd⟩
    have hs29 : Spr (w8.setCell ⟨R, 6, none⟩ (.slice (some ⟨gg, 0, none⟩) (k + 1) cc)) S2 C2 D nR lo2 hi2 (passed fc b a) dr :=
      ⟨hne6 (hkp L6.out.s (lts S2 (by simp))) (ap.ne 6 0 (by decide) (by decide) (by decide)), hne6 (hkp L6.out.c (lts C2 (by simp))) (ap.ne 8 0 (by decide) (by decide) (by decide)), hne6 (hkp L6.out.d (lts D (by simp))) (ap.ne 9 0 (by decide) (by decide) (by decide)), L6.out.nc, L6.out.nd, L6.out.sc, L6.out.sd, L6.out.cd⟩
    obtain ⟨T, hTT, hT9⟩ : ∃ T, (∀ x, x ∈ T → x ∈ [R, SB, FB, S1, S2, C1, C2, CH] ∨ B ≤ x) ∧ Turns T w2 (w8.setCell ⟨R, 6, none⟩ (.slice (some ⟨gg, 0, none⟩) (k + 1) cc)) := by
      refine ⟨[R, SB, FB, S1, S2, C1, C2, CH] ++ (Value.slice va k vc).ownBlock.toList, ?_, ?_⟩
      · intro x hx
        rcases List.mem_append.1 hx with h | h
        · exact .inl h
        · exact .inr (own_block_ge K6.out x (by simpa using h))
      · refine Turns.setCell ?_ (p := ⟨R, 6, none⟩) (by simp) _
        refine ((L4.out.mono (T := [R, SB, FB, S1, S2, C1, C2, CH] ++ (Value.slice va k vc).ownBlock.toList) (by simp +contextual [or_imp])).alloc _).grown hgrow (fun x hx => by have hx' : (Value.slice va k vc).ownBlock = some x := hx; rw [hx']; simp)
    have hown9 : (w8.setCell ⟨R, 6, none⟩ (.slice (some ⟨gg, 0, none⟩) (k + 1) cc)).ownsRow B 3 1 (.slice (some ⟨gg, 0, none⟩) (k + 1) cc) (k + 1) (iv (List.replicate (k + 1) (i : Int))) := by
      have h1 := ((Turns.refl [R] w8).setCell (p := ⟨R, 6, none⟩) (by simp) (.slice (some ⟨gg, 0, none⟩) (k + 1) cc)).own hown' (by simpa using lts R (by simp))
      rw [List.replicate_succ', iv, List.map_append]
      exact h1
    have hsz9 : B ≤ (w8.setCell ⟨R, 6, none⟩ (.slice (some ⟨gg, 0, none⟩) (k + 1) cc)).heap.size := Nat.le_trans HH2.out.size hT9.size
    clear hkp hne6
    generalize w8.setCell ⟨R, 6, none⟩ (.slice (some ⟨gg, 0, none⟩) (k + 1) cc) = w9 at *
    refine (spend_any R CH nS i bud ch _ _ _ _ _ _ _ w9 hR9 hC9 HH2.out.cl (by have := ap.i; exact this) (ap.ne 0 10 (by decide) (by decide) (by decide))).mono ?_
    rintro e w10 ⟨rfl, hT10, hR10, hC10⟩
    have hS10 := hT10.kept hS9 (ap.nin 11 [0, 10] (by decide))
    have hF10 := hT10.kept hF9 (ap.nin 12 [0, 10] (by decide))
    have hs110 := hT10.spr hs19 (ap.nin 5 [0, 10] (by decide)) (ap.nin 7 [0, 10] (by decide)) (ap.nin 9 [0, 10] (by decide))
    have hs210 := hT10.spr hs29 (ap.nin 6 [0, 10] (by decide)) (ap.nin 8 [0, 10] (by decide)) (ap.nin 9 [0, 10] (by decide))
    have hown10 := hT10.own hown9 (ap.lts [0, 10] (by decide))
    have hT' : Turns (R :: CH :: T) w2 w10 := (hT9.mono (by simp +contextual)).trans (hT10.mono (by simp +contextual [or_imp]))
    have hnT : ∀ j, j ∈ [1, 2, 3, 4] → (Cfg.all ⟨B, R, TB, LB, M, RB, S1, S2, C1, C2, D, CH, SB, FB, nS, nR, cR, cF, i, ring, dr, lo1, hi1, lo2, hi2⟩).getD j 0 ∉ R :: CH :: T := by
      intro j hj hm
      have hj4 : j < 13 ∧ ∀ t ∈ [0, 11, 12, 5, 6, 7, 8, 10], t < 13 ∧ j ≠ t := by
        simp only [List.mem_cons, List.not_mem_nil, or_false] at hj
        rcases hj with rfl | rfl | rfl | rfl <;> decide
      have hno := ap.nin j [0, 11, 12, 5, 6, 7, 8, 10] hj4
      have hlt := ap.lts [j] (by simpa using hj4.1) _ (List.mem_map.2 ⟨j, by simp, rfl⟩)
      rcases List.mem_cons.1 hm with e | hm
      · exact hno (by rw [e]; simp [Cfg.all])
      rcases List.mem_cons.1 hm with e | hm
      · exact hno (by rw [e]; simp [Cfg.all])
      rcases hTT _ hm with h | h
      · exact hno h
      · exact absurd h (Nat.not_le.2 hlt)
    have HFIN := hide (show St ⟨B, R, TB, LB, M, RB, S1, S2, C1, C2, D, CH, SB, FB, nS, nR, cR, cF, i, ring, dr, lo1, hi1, lo2, hi2⟩ w10 (arr.setIfInBounds (i * 5 + 1) (.string y)) y (srt (f.set p ld)) (passed lc a b) (passed fc b a) (ch.set i true) (wrap64 (bud - 1)) (k + 1) from
      ⟨Nat.le_trans hsz9 hT10.size, ⟨_, _, _, hR10, hown10⟩, hT'.cell HH2.out.t (hnT 1 (by simp)), hT'.cell HH2.out.l0 (hnT 2 (by simp)), hT'.cell HH2.out.l1 (hnT 2 (by simp)),
        hT'.row HH2.out.ring (fun b off e => by cases e; exact hnT 4 (by simp)), hT'.map HH2.out.map (hnT 3 (by simp)), hS10,
        by
          have h1 := HH2.out.sl
          have h2 : i * 5 + 1 < arr.size := (Array.getElem?_eq_some_iff.1 h1).1
          rw [Array.getElem?_setIfInBounds_self_of_lt h2],
        by
          rw [Array.getElem?_setIfInBounds_ne (by omega), srt_len, List.length_set]
          exact HH2.out.sf,
        hF10, hs110, hs210, hC10, by rw [List.length_set]; exact HH2.out.cl⟩)
    have HTF := hide (show ∃ T, (∀ x, x ∈ T → x ∈ [R, SB, FB, S1, S2, C1, C2, CH] ∨ B ≤ x) ∧ Turns T w w10 from
      ⟨R :: CH :: T, fun x hx => by
        rcases List.mem_cons.1 hx with e | hx
        · exact .inl (by rw [e]; simp)
        rcases List.mem_cons.1 hx with e | hx
        · exact .inl (by rw [e]; simp)
        exact hTT x hx, (HT2.out.mono (by simp)).trans hT'⟩)
    clear hT10 hR10 hC10 hS10 hF10 hs110 hs210 hown10 hT' hnT hTT hT9 hown9 hsz9 hs19 hs29 hC9 hC7 hF9 hS9 hR9 lts ap hown' hgrow
    go_wp2_with fail
    go_end0
    rw [HP.out, Int.toNat_natCast, HY.out]
    exact ⟨rfl, HFIN.out, HTF.out⟩

end Go.Proofs.Qxb6619598a
