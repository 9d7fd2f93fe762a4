import Derived.Test.Qxb6619598aBase
namespace Go.Proofs.Qxb6619598a
open Go.RowKit Go.WideShapes

/-- One follower list as it came in. -/
structure FL where
  a : Option Addr
  c : Nat
  ks : List ByteArray
def fl0 : FL := ⟨none, 0, []⟩
def fv (fs : List FL) : List Value := fs.map fun f => .slice f.a f.ks.length f.c
def fat (fs : List FL) (k : Nat) : FL := fs.getD k fl0
theorem fv_len (fs : List FL) : (fv fs).length = fs.length := by simp [fv]
theorem fv_get {fs : List FL} {k : Nat} (h : k < fs.length) : (fv fs)[k]? = some (.slice (fat fs k).a (fat fs k).ks.length (fat fs k).c) := by simp [fv, fat, h]
/-- The follower lists lie in memory. -/
def FRow (w : World) (a : Option Addr) (fs : List FL) : Prop := Row w a (fv fs) ∧ ∀ k, k < fs.length → Row w (fat fs k).a (sv (fat fs k).ks) ∧ ((fat fs k).a = none → (fat fs k).ks = [] ∧ (fat fs k).c = 0)
theorem FRow.below {w w' : World} {a : Option Addr} {fs : List FL} (h : FRow w a fs) (hb : Below w.heap.size w w') : FRow w' a fs :=
  ⟨h.1.below hb, fun k hk => ⟨(h.2 k hk).1.below hb, (h.2 k hk).2⟩⟩

/-- What the bound on total length gives. -/
def Small (n0 n1 n2 n5 n6 n7 : Nat) (fs : List FL) : Prop :=
  n0 ≤ 1048576 ∧ n1 ≤ 1048576 ∧ n2 ≤ 1048576 ∧ n5 ≤ 1048576 ∧ n6 ≤ 1048576 ∧ n7 ≤ 1048576 ∧ ∀ k, k < fs.length → (fat fs k).ks.length ≤ 1048576

set_option maxHeartbeats 4000000 in
set_option maxRecDepth 100000 in
theorem bytes_any (a0 a1 a2 a5 a6 a7 : Option Addr) (n0 c0 n1 c1 n2 c2 n5 c5 n6 c6 n7 c7 : Nat) (k0 k1 : List ByteArray) (fs : List FL) (i b x0 x1 y0 y1 bud : Int) (w : World)
    (e0 : n0 = k0.length) (e1 : n1 = k1.length) (e2 : n2 = fs.length) (r0 : Row w a0 (sv k0)) (r1 : Row w a1 (sv k1)) (r2 : FRow w a2 fs) :
    Calls Try.prog 15 #[.slice a0 n0 c0, .slice a1 n1 c1, .slice a2 n2 c2, .int .i64 i, .int .i64 b, .slice a5 n5 c5, .slice a6 n6 c6, .slice a7 n7 c7, .agg #[.int .i64 x0, .int .i64 x1], .agg #[.int .i64 y0, .int .i64 y1], .int .i64 bud] w
      fun e w' => RetIf (Small n0 n1 n2 n5 n6 n7 fs) e ∧ Below w.heap.size w w' := by
  have hb2 : Below w.heap.size w ((w.alloc (.cells #[.int .i64 x0, .int .i64 x1] 43)).alloc (.cells #[.int .i64 y0, .int .i64 y1] 43)) := ((Below.refl _ _).alloc (Nat.le_refl _) _).alloc (by simp) _
  have R0 := hide (r0.below hb2)
  have R1 := hide (r1.below hb2)
  have R2 := hide (r2.below hb2)
  have HB := hide hb2
  have E0 := hide e0
  have E1 := hide e1
  have E2 := hide e2
  clear r0 r1 r2 e0 e1 e2 hb2
  have G := hide (show ∀ (p : Prop) (e : Ending), e = .returned (.bool false) → RetIf p e from fun p e h => ⟨false, h, by simp⟩)
  go_enter Try.func15, Try.ntmps15
  go_wp2
  all_goals first
    | (go_ret; exact ⟨G.out _ _ rfl, HB.out⟩)
    | skip
  go_loop [22, 23, 24] (fun _ s23 s => ∃ (j : Nat) (t : Int), j ≤ n0 ∧ s = .int .i64 j ∧ s23 = .int .i64 t) (fun _ _ s => n0 - (intOf s).toNat)
  case atStart => exact ⟨0, _, Nat.zero_le _, rfl, rfl⟩
  case round =>
    obtain ⟨j0, t0, hj0, rfl, rfl⟩ := hrel
    by_cases hlt : j0 < n0
    · have hlz : (j0 : Int) < (n0 : Int) := by omega
      obtain ⟨b, off, rfl, _, hc⟩ := R0.out j0 _ (sv_get (by rw [← E0.out]; exact hlt))
      go_wp2
      all_goals first
        | (go_ret; exact ⟨G.out _ _ rfl, HB.out⟩)
        | skip
      go_round
      case rel => exact ⟨j0 + 1, _, by omega, by go_num, rfl⟩
      case measure => simp [intOf]; omega
    · clear hj0
      go_wp2
      all_goals first
        | (go_ret; exact ⟨G.out _ _ rfl, HB.out⟩)
        | skip
      have g0 : (n0 : Int) ≤ 1048576 := by assumption
      go_loop [22, 23, 25] (fun _ s23 s => ∃ (j : Nat) (t : Int), j ≤ n1 ∧ s = .int .i64 j ∧ s23 = .int .i64 t) (fun _ _ s => n1 - (intOf s).toNat)
      case atStart => exact ⟨0, _, Nat.zero_le _, rfl, rfl⟩
      case round =>
        obtain ⟨j1, t1, hj1, rfl, rfl⟩ := hrel
        by_cases hlt : j1 < n1
        · have hlz : (j1 : Int) < (n1 : Int) := by omega
          obtain ⟨b, off, rfl, _, hc⟩ := R1.out j1 _ (sv_get (by rw [← E1.out]; exact hlt))
          go_wp2
          all_goals first
            | (go_ret; exact ⟨G.out _ _ rfl, HB.out⟩)
            | skip
          go_round
          case rel => exact ⟨j1 + 1, _, by omega, by go_num, rfl⟩
          case measure => simp [intOf]; omega
        · clear hj1
          go_wp2
          all_goals first
            | (go_ret; exact ⟨G.out _ _ rfl, HB.out⟩)
            | skip
          go_loop [22, 23, 26, 27] (fun _ s23 s26 _ => ∃ (j : Nat) (t : Int), j ≤ n2 ∧ s26 = .int .i64 j ∧ s23 = .int .i64 t ∧ Hid (∀ k, k < j → (fat fs k).ks.length ≤ 1048576)) (fun _ _ s26 _ => n2 - (intOf s26).toNat)
          case atStart => exact ⟨0, _, Nat.zero_le _, rfl, rfl, fun k hk => absurd hk (Nat.not_lt_zero _)⟩
          case round =>
            obtain ⟨j2, t2, hj2, rfl, rfl, HF⟩ := hrel
            by_cases hlt : j2 < n2
            · have hlz : (j2 : Int) < (n2 : Int) := by omega
              obtain ⟨b, off, rfl, _, hc⟩ := R2.out.1 j2 _ (fv_get (by rw [← E2.out]; exact hlt))
              have RF := hide (R2.out.2 j2 (by rw [← E2.out]; exact hlt)).1
              generalize hf : fat fs j2 = f at hc RF
              have HFE := hide hf
              clear hf
              obtain ⟨fa, fc, fk⟩ := f
              simp only at hc RF
              obtain ⟨m, hm⟩ : ∃ m, m = fk.length := ⟨_, rfl⟩
              rw [← hm] at hc
              have HM := hide hm
              clear hm
              go_wp2
              all_goals first
                | (go_ret; exact ⟨G.out _ _ rfl, HB.out⟩)
                | skip
              have gm : (m : Int) ≤ 1048576 := by assumption
              go_loop [22, 23, 27] (fun _ s23 s27 => ∃ (j : Nat) (t : Int), j ≤ m ∧ s27 = .int .i64 j ∧ s23 = .int .i64 t) (fun _ _ s27 => m - (intOf s27).toNat)
              case atStart => exact ⟨0, _, Nat.zero_le _, rfl, rfl⟩
              case round =>
                obtain ⟨j3, t3, hj3, rfl, rfl⟩ := hrel
                by_cases hlt3 : j3 < m
                · have hlz3 : (j3 : Int) < (m : Int) := by omega
                  obtain ⟨b3, off3, rfl, _, hc3⟩ := RF.out j3 _ (sv_get (by rw [← HM.out]; exact hlt3))
                  go_wp2
                  all_goals first
                    | (go_ret; exact ⟨G.out _ _ rfl, HB.out⟩)
                    | skip
                  go_round
                  case rel => exact ⟨j3 + 1, _, by omega, by go_num, rfl⟩
                  case measure => simp [intOf]; omega
                · clear hj3
                  go_wp2
                  go_round
                  case rel =>
                    refine ⟨j2 + 1, _, by omega, by go_num, rfl, (show Hid _ from fun k hk => ?_)⟩
                    by_cases e : k = j2
                    · subst e; rw [HFE.out]; have := HM.out; simp only; omega
                    · exact HF.out k (by omega)
                  case measure => simp [intOf]; omega
            · have HFA := hide (show ∀ k, k < fs.length → (fat fs k).ks.length ≤ 1048576 from fun k hk => HF.out k (by have := E2.out; omega))
              clear hj2 HF
              go_wp2
              all_goals first
                | (go_ret; exact ⟨G.out _ _ rfl, HB.out⟩)
                | (go_ret; exact ⟨⟨true, rfl, fun _ => ⟨by omega, by omega, by omega, by omega, by omega, by omega, HFA.out⟩⟩, HB.out⟩)
                | skip

end Go.Proofs.Qxb6619598a
