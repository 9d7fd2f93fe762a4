import Derived.Test.Qxb6619598aAdd
namespace Go.Proofs.Qxb6619598a
open Go.RowKit Go.WideShapes

/-- One from a to b. -/
def passed (cnt : List Int) (a b : Nat) : List Int := (cnt.set a (iat cnt a - 1)).set b (iat cnt b + 1)

set_option maxHeartbeats 1000000 in
set_option maxRecDepth 100000 in
theorem pass_any (S C D n a b : Nat) (lo hi : Int) (cnt : List Int) (dr : List Bool) (w : World) (h : Spr w S C D n lo hi cnt dr) (ha : a < n) (hb : b < n) (hab : a ≠ b) (hf : Fit cnt lo hi) (hf' : Fit (cnt.set a (iat cnt a - 1)) lo hi) :
    Calls Try.prog 43 #[.pointer (some ⟨S, 0, none⟩), .int .i64 a, .int .i64 b] w fun e w' => e = .returned (.tuple #[]) ∧ Turns [S, C] w w' ∧ Spr w' S C D n lo hi (passed cnt a b) dr := by
  have h1 := add_any S C D n a (-1) lo hi cnt dr w h ha (by omega) hf
  have HN := hide h.nc
  have HF' := hide hf'
  have HAB := hide hab
  clear h hf hf' hab
  go_enter Try.func43, Try.ntmps43
  go_wp2_with fail
  refine h1.mono ?_
  rintro e w1 ⟨rfl, hT, hS⟩
  clear h1
  have h2 := add_any S C D n b 1 lo hi _ dr w1 hS hb (by omega) HF'.out
  have HT := hide hT
  clear hT hS
  go_wp2_with fail
  refine h2.mono ?_
  rintro e w2 ⟨rfl, hT, hS⟩
  clear h2
  go_wp2_with fail
  go_end0
  refine ⟨rfl, HT.out.trans hT, ?_⟩
  have e1 : iat (cnt.set a (iat cnt a + -1)) b = iat cnt b := by rw [iat_set _ _ _ _ (by have := HN.out; omega), if_neg (fun h => HAB.out h.symm)]
  rw [e1] at hS
  exact hS

set_option maxHeartbeats 1000000 in
set_option maxRecDepth 100000 in
theorem spend_any (R CH n i : Nat) (bud : Int) (ch : List Bool) (r0 r1 r2 r3 r6 r7 r8 : Value) (w : World) (hR : Blk w R 77 #[r0, r1, r2, r3, .int .i64 bud, .slice (some ⟨CH, 0, none⟩) n n, r6, r7, r8]) (hC : Blk w CH 4 (bv ch).toArray) (hn : n = ch.length) (hi : i < n) (hne : R ≠ CH) :
    Calls Try.prog 44 #[.pointer (some ⟨R, 0, none⟩), .int .i64 i] w fun e w' => e = .returned (.tuple #[]) ∧ Turns [R, CH] w w' ∧ Blk w' R 77 #[r0, r1, r2, r3, .int .i64 (wrap64 (bud - 1)), .slice (some ⟨CH, 0, none⟩) n n, r6, r7, r8] ∧ Blk w' CH 4 (bv (ch.set i true)).toArray := by
  have hiz : (i : Int) < (n : Int) := by omega
  have hne' : CH ≠ R := fun h => hne h.symm
  have a5 : w.cell? ⟨R, 5, none⟩ = some (.slice (some ⟨CH, 0, none⟩) n n) := hR.cell rfl
  have ai : w.cell? ⟨CH, i, none⟩ = some (.bool (bat ch i)) := hC.cell (by simpa using bv_get (by rw [← hn]; exact hi))
  have fi : w.frozen? ⟨CH, i, none⟩ = false := hC.frozen _
  have f4 : w.frozen? ⟨R, 4, none⟩ = false := hR.frozen _
  have b4 : ∀ v, (w.setCell ⟨CH, i, none⟩ v).cell? ⟨R, 4, none⟩ = some (.int .i64 bud) := fun v => (hR.setOther (a := ⟨CH, i, none⟩) hne v).cell rfl
  have HR := hide hR
  have HC := hide hC
  have HNE := hide hne
  have HNE' := hide hne'
  clear hR hC hn hne hne'
  go_enter Try.func44, Try.ntmps44
  go_wp2_with fail
  go_end0
  refine ⟨rfl, ((Turns.refl _ _).setCell (p := ⟨CH, i, none⟩) (by simp) _).setCell (p := ⟨R, 4, none⟩) (by simp) _, ?_, ?_⟩
  · exact (HR.out.setOther (a := ⟨CH, i, none⟩) HNE.out (.bool true)).set 4 (.int .i64 (wrap64 (bud - 1)))
  · have := (HC.out.set i (.bool true)).setOther (a := ⟨R, 4, none⟩) HNE'.out (.int .i64 (wrap64 (bud - 1)))
    rw [bv_set] at this
    exact this

end Go.Proofs.Qxb6619598a
