import Derived.Test.Qxb6619598aTal
namespace Go.Proofs.Qxb6619598a
open Go.RowKit Go.WideShapes

theorem turns_of_drewN {w w' : World} (h : ∃ q, w' = w.drewN q) : Turns [] w w' := by
  obtain ⟨q, rfl⟩ := h
  exact (Turns.refl _ _).drewN _

set_option maxHeartbeats 1000000 in
set_option maxRecDepth 100000 in
theorem same23_any (a b : Option Addr) (n c m d : Nat) (ks : List ByteArray) (w : World) (hn : n = ks.length) (hm : m = ks.length) (hbig : n ≤ 1048576) (hk : Row w a (sv ks)) (hl : Row w b (sv ks)) :
    Calls Try.prog 23 #[.slice a n c, .slice b m d] w fun e w' => e = .returned (.bool true) ∧ ∃ q, w' = w.drewN q := by
  have HN := hide hn
  have HK := hide hk
  have HL := hide hl
  obtain rfl : m = n := by omega
  clear hn hk hl hm
  go_enter Try.func23, Try.ntmps23
  go_wp2
  go_loopw [5] (fun s5 wr => ∃ j : Nat, j ≤ m ∧ s5 = .int .i64 j ∧ Hid (∃ q, wr = w.drewN q)) (fun s5 _ => m - (intOf s5).toNat)
  case atStart => exact ⟨0, Nat.zero_le _, rfl, hide ⟨0, rfl⟩⟩
  case round =>
    obtain ⟨j, hj, rfl, HT⟩ := hrel
    by_cases hlt : j < m
    · have hlz : (j : Int) < (m : Int) := by omega
      obtain ⟨b1, o1, rfl, _, hc1⟩ := (turns_of_drewN HT.out).rowAll HK.out j _ (sv_get (by rw [← HN.out]; exact hlt))
      obtain ⟨b2, o2, rfl, _, hc2⟩ := (turns_of_drewN HT.out).rowAll HL.out j _ (sv_get (by rw [← HN.out]; exact hlt))
      generalize sat ks j = y at hc1 hc2
      go_wp2_with (go_quiet (fail))
      go_round
      case rel => exact ⟨j + 1, by omega, by go_num, hide (by obtain ⟨q, rfl⟩ := HT.out; exact ⟨_, World.drewN_drewN _ _ _⟩)⟩
      case measure => simp [intOf]; omega
    · clear hj
      go_wp2
      go_ret
      exact ⟨rfl, HT.out⟩

set_option maxHeartbeats 1000000 in
set_option maxRecDepth 100000 in
theorem same28_any (a b : Option Addr) (n c m d : Nat) (ks : List Int) (w : World) (hn : n = ks.length) (hm : m = ks.length) (hbig : n ≤ 1048576) (hk : Row w a (iv ks)) (hl : Row w b (iv ks)) :
    Calls Try.prog 28 #[.slice a n c, .slice b m d] w fun e w' => e = .returned (.bool true) ∧ ∃ q, w' = w.drewN q := by
  have HN := hide hn
  have HK := hide hk
  have HL := hide hl
  obtain rfl : m = n := by omega
  clear hn hk hl hm
  go_enter Try.func28, Try.ntmps28
  go_wp2
  go_loopw [5] (fun s5 wr => ∃ j : Nat, j ≤ m ∧ s5 = .int .i64 j ∧ Hid (∃ q, wr = w.drewN q)) (fun s5 _ => m - (intOf s5).toNat)
  case atStart => exact ⟨0, Nat.zero_le _, rfl, hide ⟨0, rfl⟩⟩
  case round =>
    obtain ⟨j, hj, rfl, HT⟩ := hrel
    by_cases hlt : j < m
    · have hlz : (j : Int) < (m : Int) := by omega
      obtain ⟨b1, o1, rfl, _, hc1⟩ := (turns_of_drewN HT.out).rowAll HK.out j _ (iv_get (by rw [← HN.out]; exact hlt))
      obtain ⟨b2, o2, rfl, _, hc2⟩ := (turns_of_drewN HT.out).rowAll HL.out j _ (iv_get (by rw [← HN.out]; exact hlt))
      generalize iat ks j = y at hc1 hc2
      go_wp2_with (go_quiet (fail))
      go_round
      case rel => exact ⟨j + 1, by omega, by go_num, hide (by obtain ⟨q, rfl⟩ := HT.out; exact ⟨_, World.drewN_drewN _ _ _⟩)⟩
      case measure => simp [intOf]; omega
    · clear hj
      go_wp2
      go_ret
      exact ⟨rfl, HT.out⟩

end Go.Proofs.Qxb6619598a
