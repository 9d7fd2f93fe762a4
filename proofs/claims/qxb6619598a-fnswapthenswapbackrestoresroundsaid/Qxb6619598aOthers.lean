import Derived.Test.Qxb6619598aSame
import Derived.Test.Qxb6619598aShift
namespace Go.Proofs.Qxb6619598a
open Go.RowKit Go.WideShapes

theorem Row.drewN {w : World} {a : Option Addr} {vs : List Value} (h : Row w a vs) (q : Nat) : Row (w.drewN q) a vs := h

/-- Slot k of the block holds the leader and the followers. -/
def SlotAt (w : World) (SB k : Nat) (ld : ByteArray) (fk : List ByteArray) : Prop :=
  w.cell? ⟨SB, k * 5 + 1, none⟩ = some (.string ld) ∧ ∃ a c, w.cell? ⟨SB, k * 5 + 3, none⟩ = some (.slice a fk.length c) ∧ Row w a (sv fk)

set_option maxHeartbeats 4000000 in
set_option maxRecDepth 100000 in
theorem others_any (SB : Nat) (a1 a2 : Option Addr) (n c0 c1 c2 i : Nat) (k1 : List ByteArray) (fs : List FL) (w : World) (h1 : n = k1.length) (h2 : n = fs.length) (hbig : n ≤ 1048576) (hf : ∀ k, k < fs.length → (fat fs k).ks.length ≤ 1048576)
    (r1 : Row w a1 (sv k1)) (r2 : FRow w a2 fs) (hs : ∀ k, k < n → k ≠ i → SlotAt w SB k (sat k1 k) (fat fs k).ks) :
    Calls Try.prog 26 #[.slice (some ⟨SB, 0, none⟩) n c0, .slice a1 n c1, .slice a2 n c2, .int .i64 i] w fun e w' => e = .returned (.bool true) ∧ ∃ q, w' = w.drewN q := by
  have R1 := hide r1
  have R2 := hide r2
  have HS := hide hs
  have H1 := hide h1
  have H2 := hide h2
  have HF := hide hf
  clear r1 r2 hs h1 h2 hf
  go_enter Try.func26, Try.ntmps26
  go_wp2_with fail
  go_loopw [9] (fun s9 wr => ∃ (j q : Nat), j ≤ n ∧ s9 = .int .i64 j ∧ wr = w.drewN q) (fun s9 _ => n - (intOf s9).toNat)
  case atStart => exact ⟨0, 0, Nat.zero_le _, rfl, rfl⟩
  case round =>
    obtain ⟨j, q, hj, rfl, hwr⟩ := hrel
    have HW := hide hwr
    by_cases hlt : j < n
    · have hlz : (j : Int) < (n : Int) := by omega
      by_cases hji : j = i
      · subst hji
        clear hwr
        go_wp2_with fail
        go_roundw
        case rel => exact ⟨j + 1, q, by omega, by go_num, HW.out⟩
        case measure => simp [intOf]; omega
      · have hjz : ((j : Int) == (i : Int)) = false := by simp; omega
        obtain ⟨hcl, fa, fc, hcf, hrf⟩ := HS.out j hlt hji
        obtain ⟨b1, o1, rfl, _, hc1⟩ := R1.out j _ (sv_get (by rw [← H1.out]; exact hlt))
        obtain ⟨b2, o2, rfl, _, hc2⟩ := R2.out.1 j _ (fv_get (by rw [← H2.out]; exact hlt))
        have hrg := (R2.out.2 j (by rw [← H2.out]; exact hlt)).1
        have hcl : wr.cell? ⟨SB, j * 5 + 1, none⟩ = some (.string (sat k1 j)) := by rw [hwr]; exact hcl
        have hcf : wr.cell? ⟨SB, j * 5 + 3, none⟩ = some (.slice fa (fat fs j).ks.length fc) := by rw [hwr]; exact hcf
        have hc1 : wr.cell? ⟨b1, o1 + j, none⟩ = some (.string (sat k1 j)) := by rw [hwr]; exact hc1
        have hc2 : wr.cell? ⟨b2, o2 + j, none⟩ = some (.slice (fat fs j).a (fat fs j).ks.length (fat fs j).c) := by rw [hwr]; exact hc2
        have hrf : Row wr fa (sv (fat fs j).ks) := by rw [hwr]; exact hrf.drewN q
        have hrg : Row wr (fat fs j).a (sv (fat fs j).ks) := by rw [hwr]; exact hrg.drewN q
        have HSAME := hide (fun r => same23_any fa (fat fs j).a (fat fs j).ks.length fc (fat fs j).ks.length (fat fs j).c (fat fs j).ks (wr.drewN r) rfl rfl (HF.out j (by rw [← H2.out]; exact hlt)) (hrf.drewN r) (hrg.drewN r))
        clear hrf hrg hwr
        generalize (fat fs j).ks.length = m at hcf hc2 HSAME
        generalize (fat fs j).a = ga at hc2 HSAME
        generalize (fat fs j).c = gc at hc2 HSAME
        generalize sat k1 j = y at hcl hc1
        go_wp2_with fail
        go_quiet ((go_at_call 23; exact Calls.quiet_of (HSAME.out _)))
        go_wp2_with fail
        go_roundw
        case rel => exact ⟨j + 1, _, by omega, by go_num, by rw [HW.out]; exact World.drewN_drewN _ _ _⟩
        case measure => simp [intOf]; omega
    · clear hj hwr
      go_wp2_with fail
      go_ret
      exact ⟨rfl, q, HW.out⟩

end Go.Proofs.Qxb6619598a
