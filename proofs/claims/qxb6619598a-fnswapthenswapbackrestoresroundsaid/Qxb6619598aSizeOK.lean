import Derived.Test.Qxb6619598aBytes
namespace Go.Proofs.Qxb6619598a
open Go.RowKit Go.WideShapes

def RetIB (e : Ending) : Prop := ∃ z r, e = .returned (.tuple #[.int .i64 z, .bool r])

set_option maxHeartbeats 1000000 in
theorem addBytes_any (a : Option Addr) (n c : Nat) (ks : List ByteArray) (z : Int) (w : World) (hn : n = ks.length) (hbig : n ≤ 1048576) (hk : Row w a (sv ks)) :
    Calls Try.prog 30 #[.int .i64 z, .slice a n c] w fun e w' => RetIB e ∧ w' = w := by
  have HN := hide hn
  have HK := hide hk
  clear hn hk
  go_enter Try.func30, Try.ntmps30
  go_wp2
  · go_ret2
    exact ⟨⟨_, _, rfl⟩, rfl⟩
  go_loop [0, 4, 5, 6] (fun s0 _ _ s6 => ∃ (j : Nat) (t : Int), j ≤ n ∧ s6 = .int .i64 j ∧ s0 = .int .i64 t) (fun _ _ _ s6 => n - (intOf s6).toNat)
  case atStart => exact ⟨0, _, Nat.zero_le _, rfl, rfl⟩
  case round =>
    obtain ⟨j, t, hj, rfl, rfl⟩ := hrel
    by_cases hlt : j < n
    · have hlz : (j : Int) < (n : Int) := by omega
      obtain ⟨b, off, rfl, _, hc⟩ := HK.out j _ (sv_get (by rw [← HN.out]; exact hlt))
      go_wp2
      all_goals first
        | (go_ret2; exact ⟨⟨_, _, rfl⟩, rfl⟩)
        | skip
      go_round
      case rel => exact ⟨j + 1, _, by omega, by go_num, rfl⟩
      case measure => simp [intOf]; omega
    · go_wp2
      go_ret2
      exact ⟨⟨_, _, rfl⟩, rfl⟩

set_option maxHeartbeats 4000000 in
set_option maxRecDepth 100000 in
theorem sizeOK_any (a0 a1 a2 a5 a6 a7 : Option Addr) (n0 c0 n1 c1 n2 c2 n5 c5 n6 c6 n7 c7 : Nat) (k0 k1 : List ByteArray) (fs : List FL) (w : World)
    (e0 : n0 = k0.length) (e1 : n1 = k1.length) (e2 : n2 = fs.length) (r0 : Row w a0 (sv k0)) (r1 : Row w a1 (sv k1)) (r2 : FRow w a2 fs) (hs : Small n0 n1 n2 n5 n6 n7 fs) :
    Calls Try.prog 16 #[.slice a0 n0 c0, .slice a1 n1 c1, .slice a2 n2 c2, .slice a5 n5 c5, .slice a6 n6 c6, .slice a7 n7 c7] w fun e w' => RetBool e ∧ w' = w := by
  obtain ⟨s0, s1, s2, s5, s6, s7, sf⟩ := hs
  have A0 := hide (fun z => addBytes_any a0 n0 c0 k0 z w e0 s0 r0)
  have A1 := hide (fun z => addBytes_any a1 n1 c1 k1 z w e1 s1 r1)
  have R2 := hide r2
  have E2 := hide e2
  have SF := hide sf
  clear r0 r1 r2 e0 e1 e2 sf
  by_cases h0 : (131072 : Int) < (n0 : Int)
  · go_enter Try.func16, Try.ntmps16
    go_wp2_with fail
    go_ret
    exact ⟨⟨_, rfl⟩, rfl⟩
  by_cases h1 : (131072 : Int) < (n1 : Int)
  · go_enter Try.func16, Try.ntmps16
    go_wp2_with fail
    go_ret
    exact ⟨⟨_, rfl⟩, rfl⟩
  by_cases h2 : (131072 : Int) < (n2 : Int)
  · go_enter Try.func16, Try.ntmps16
    go_wp2_with fail
    go_ret
    exact ⟨⟨_, rfl⟩, rfl⟩
  by_cases h5 : (131072 : Int) < (n5 : Int)
  · go_enter Try.func16, Try.ntmps16
    go_wp2_with fail
    go_ret
    exact ⟨⟨_, rfl⟩, rfl⟩
  by_cases h6 : (131072 : Int) < (n6 : Int)
  · go_enter Try.func16, Try.ntmps16
    go_wp2_with fail
    go_ret
    exact ⟨⟨_, rfl⟩, rfl⟩
  have h7 : (n7 : Int) ≤ 1048576 := by omega
  go_enter Try.func16, Try.ntmps16
  go_wp2_with fail
  refine (A0.out _).mono ?_
  rintro e w1 ⟨⟨z, r, rfl⟩, hw⟩
  subst hw
  cases r with
  | false =>
    go_wp2_with fail
    go_ret
    exact ⟨⟨_, rfl⟩, rfl⟩
  | true =>
    go_wp2_with fail
    refine (A1.out _).mono ?_
    rintro e w2 ⟨⟨z, r, rfl⟩, hw⟩
    subst hw
    cases r with
    | false =>
      go_wp2_with fail
      go_ret
      exact ⟨⟨_, rfl⟩, rfl⟩
    | true =>
      go_wp2_with fail
      go_loop [12, 13, 14, 15] (fun _ s13 _ s15 => ∃ (j : Nat) (t : Int), j ≤ n2 ∧ s15 = .int .i64 j ∧ s13 = .int .i64 t) (fun _ _ _ s15 => n2 - (intOf s15).toNat)
      case atStart => exact ⟨0, _, Nat.zero_le _, rfl, rfl⟩
      case round =>
        obtain ⟨j, t, hj, rfl, rfl⟩ := hrel
        by_cases hlt : j < n2
        · have hlz : (j : Int) < (n2 : Int) := by omega
          obtain ⟨b, off, rfl, _, hc⟩ := R2.out.1 j _ (fv_get (by rw [← E2.out]; exact hlt))
          have hcall := fun z => addBytes_any (fat fs j).a (fat fs j).ks.length (fat fs j).c (fat fs j).ks z w2 rfl (SF.out j (by rw [← E2.out]; exact hlt)) (R2.out.2 j (by rw [← E2.out]; exact hlt)).1
          generalize (fat fs j).a = fa at hc hcall
          generalize (fat fs j).ks.length = fn at hc hcall
          generalize (fat fs j).c = fc at hc hcall
          have HCA := hide hcall
          clear hcall
          go_wp2_with fail
          all_goals first
            | (go_ret; exact ⟨⟨_, rfl⟩, rfl⟩)
            | skip
          refine (HCA.out _).mono ?_
          rintro e w3 ⟨⟨z, r, rfl⟩, hw⟩
          subst hw
          cases r with
          | false =>
            go_wp2_with fail
            go_ret
            exact ⟨⟨_, rfl⟩, rfl⟩
          | true =>
            go_wp2_with fail
            go_round
            case rel => exact ⟨j + 1, _, by omega, by go_num, rfl⟩
            case measure => simp [intOf]; omega
        · go_wp2_with fail
          go_ret
          exact ⟨⟨_, rfl⟩, rfl⟩

end Go.Proofs.Qxb6619598a
