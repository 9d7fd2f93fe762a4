import Derived.Test.Qxb6619598aMem
namespace Go.Proofs.Qxb6619598a
open Go.RowKit Go.WideShapes

def sumTo (f : Nat → Int) : Nat → Int
  | 0 => 0
  | n + 1 => sumTo f n + f n
theorem sumTo_bound (f : Nat → Int) (M : Int) (n : Nat) (h : ∀ j, j < n → 0 ≤ f j ∧ f j ≤ M) : 0 ≤ sumTo f n ∧ sumTo f n ≤ n * M := by
  induction n with
  | zero => simp [sumTo]
  | succ n ih =>
    have h1 := ih (fun j hj => h j (by omega))
    have h2 := h n (by omega)
    have : ((n + 1 : Nat) : Int) * M = n * M + M := by rw [Int.natCast_add, Int.add_mul]; simp
    simp only [sumTo]
    omega
theorem sumTo_congr (f g : Nat → Int) (n : Nat) (h : ∀ j, j < n → f j = g j) : sumTo f n = sumTo g n := by
  induction n with
  | zero => rfl
  | succ n ih => simp only [sumTo]; rw [ih (fun j hj => h j (by omega)), h n (by omega)]
theorem sumTo_upd (f g : Nat → Int) (n j : Nat) (hj : j < n) (h : ∀ i, i < n → i ≠ j → g i = f i) : sumTo g n = sumTo f n - f j + g j := by
  induction n with
  | zero => omega
  | succ n ih =>
    simp only [sumTo]
    by_cases e : j = n
    · subst e
      rw [sumTo_congr g f j (fun i hi => h i (by omega) (by omega))]
      omega
    · rw [ih (by omega) (fun i hi hne => h i (by omega) hne), h n (by omega) (by omega)]
      omega
def lim (d : Bool) (h : Int) : Int := if d then 0 else h
/-- Carried beyond the bound; missing under it. -/
def ovr (c : Int) (d : Bool) (hi : Int) : Int := max (c - lim d hi) 0
def und (c : Int) (d : Bool) (lo : Int) : Int := max (lim d lo - c) 0
def tA (cnt : List Int) (dr : List Bool) (hi : Int) (n : Nat) : Int := sumTo (fun j => ovr (iat cnt j) (bat dr j) hi) n
def tB (cnt : List Int) (dr : List Bool) (lo : Int) (n : Nat) : Int := sumTo (fun j => und (iat cnt j) (bat dr j) lo) n
/-- Small enough for all sums. -/
def Fit (cnt : List Int) (lo hi : Int) : Prop := cnt.length ≤ 1048576 ∧ (∀ j, j < cnt.length → -536871000 ≤ iat cnt j ∧ iat cnt j ≤ 536871000) ∧ (-536870912 ≤ lo ∧ lo ≤ 536870912) ∧ (-536870912 ≤ hi ∧ hi ≤ 536870912)
theorem tA_bound {cnt : List Int} {dr : List Bool} {lo hi : Int} (h : Fit cnt lo hi) {n : Nat} (hn : n ≤ cnt.length) : 0 ≤ tA cnt dr hi n ∧ tA cnt dr hi n ≤ n * 2000000000 := by
  refine sumTo_bound _ _ _ (fun j hj => ?_)
  have := h.2.1 j (by omega); have := h.2.2
  simp only [ovr, lim]; split <;> omega
theorem tB_bound {cnt : List Int} {dr : List Bool} {lo hi : Int} (h : Fit cnt lo hi) {n : Nat} (hn : n ≤ cnt.length) : 0 ≤ tB cnt dr lo n ∧ tB cnt dr lo n ≤ n * 2000000000 := by
  refine sumTo_bound _ _ _ (fun j hj => ?_)
  have := h.2.1 j (by omega); have := h.2.2
  simp only [und, lim]; split <;> omega

set_option maxHeartbeats 1000000 in
theorem tallies_any (a b : Option Addr) (n c m d : Nat) (cnt : List Int) (dr : List Bool) (lo hi : Int) (w : World) (hn : n = cnt.length) (hm : m = dr.length) (hnm : n = m) (hfit : Fit cnt lo hi)
    (hc : Row w a (iv cnt)) (hd : Row w b (bv dr)) :
    Calls Try.prog 20 #[.slice a n c, .slice b m d, .int .i64 lo, .int .i64 hi] w fun e w' => e = .returned (.tuple #[.int .i64 (tA cnt dr hi n), .int .i64 (tB cnt dr lo n)]) ∧ w' = w := by
  have HN := hide hn
  have HM := hide hm
  have HNM := hide hnm
  have HC := hide hc
  have HD := hide hd
  have HF := hide hfit
  have s0 : n ≤ 1048576 := by rw [hn]; exact hfit.1
  clear hn hm hnm hc hd hfit
  go_enter Try.func20, Try.ntmps20
  go_wp2
  go_loop [8, 9, 10, 11, 12] (fun s8 s9 s10 _ _ => ∃ j : Nat, j ≤ n ∧ s10 = .int .i64 j ∧ s8 = .int .i64 (tA cnt dr hi j) ∧ s9 = .int .i64 (tB cnt dr lo j)) (fun _ _ s10 _ _ => n - (intOf s10).toNat)
  case atStart => exact ⟨0, Nat.zero_le _, rfl, rfl, rfl⟩
  case round =>
    obtain ⟨j, hj, rfl, rfl, rfl⟩ := hrel
    have HTA := hide (tA_bound (dr := dr) HF.out (n := j) (by rw [← HN.out]; exact hj))
    have HTB := hide (tB_bound (dr := dr) HF.out (n := j) (by rw [← HN.out]; exact hj))
    have HSA := hide (show tA cnt dr hi (j + 1) = tA cnt dr hi j + ovr (iat cnt j) (bat dr j) hi from rfl)
    have HSB := hide (show tB cnt dr lo (j + 1) = tB cnt dr lo j + und (iat cnt j) (bat dr j) lo from rfl)
    generalize hA : tA cnt dr hi j = A at HTA HSA
    have HAA := hide hA
    clear hA
    generalize hB : tB cnt dr lo j = B at HTB HSB
    have HBB := hide hB
    clear hB
    by_cases hlt : j < n
    · have hlz : (j : Int) < (n : Int) := by omega
      have hlm : (j : Int) < (m : Int) := by rw [← HNM.out]; exact hlz
      obtain ⟨b1, o1, rfl, _, hc1⟩ := HC.out j _ (iv_get (by rw [← HN.out]; exact hlt))
      obtain ⟨b2, o2, rfl, _, hc2⟩ := HD.out j _ (bv_get (by rw [← HM.out, ← HNM.out]; exact hlt))
      have HX := hide (HF.out.2.1 j (by rw [← HN.out]; exact hlt))
      have HL := hide HF.out.2.2
      generalize iat cnt j = x at hc1 HX HSA HSB
      generalize bat dr j = y at hc2 HSA HSB
      cases y with
      | true =>
        rcases lt_or_ge' 0 x with h1 | h1 <;> rcases lt_or_ge' x 0 with h2 | h2
        all_goals go_wp2
        all_goals go_round
        all_goals first
          | (simp [intOf]; omega)
          | (have u1 := HTA.out; have u2 := HTB.out; have u3 := HX.out; have u4 := HL.out
             have v1 := HSA.out; have v2 := HSB.out
             simp only [ovr, und, lim, if_true] at v1 v2
             refine ⟨j + 1, by omega, by go_num, ?_, ?_⟩
             · rw [v1]; first | go_num | (refine congrArg _ ?_; unfold wrap64; omega)
             · rw [v2]; first | go_num | (refine congrArg _ ?_; unfold wrap64; omega))
      | false =>
        rcases lt_or_ge' hi x with h1 | h1 <;> rcases lt_or_ge' x lo with h2 | h2
        all_goals go_wp2
        all_goals go_round
        all_goals first
          | (simp [intOf]; omega)
          | (have u1 := HTA.out; have u2 := HTB.out; have u3 := HX.out; have u4 := HL.out
             have v1 := HSA.out; have v2 := HSB.out
             simp only [ovr, und, lim, if_false, Bool.false_eq_true] at v1 v2
             refine ⟨j + 1, by omega, by go_num, ?_, ?_⟩
             · rw [v1]; first | go_num | (refine congrArg _ ?_; unfold wrap64; omega)
             · rw [v2]; first | go_num | (refine congrArg _ ?_; unfold wrap64; omega))
    · have HE := hide (show j = n by omega)
      have HZ := hide (show ∀ X Y, tA cnt dr hi j = X → tB cnt dr lo j = Y → tA cnt dr hi n = X ∧ tB cnt dr lo n = Y from fun X Y h1 h2 => by rw [← HE.out]; exact ⟨h1, h2⟩)
      clear hj
      go_wp2
      go_ret2
      have hh := HZ.out _ _ HAA.out HBB.out
      refine ⟨?_, rfl⟩
      rw [hh.1, hh.2]
      rfl

end Go.Proofs.Qxb6619598a
