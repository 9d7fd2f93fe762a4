import Derived.Test.Qxb6619598aPass
namespace Go.Proofs.Qxb6619598a
open Go.RowKit Go.WideShapes

theorem blk_new {w : World} {k : Nat} {t : TypeId} {cs : Array Value} (h : k = w.heap.size) : Blk (w.alloc (.cells cs t)) k t cs := by
  subst h
  show (w.heap.push _)[w.heap.size]? = _
  simp

theorem results_tmp7 {fn : Func} {t1 t2 t3 t4 t5 t6 t7 : Tmp} (h : fn.results = #[.tmp t1, .tmp t2, .tmp t3, .tmp t4, .tmp t5, .tmp t6, .tmp t7]) (tmps : Array Value) (P : Program) (w : World) :
    (results fn tmps).run P w = .ok (.tuple #[tmps.getD t1 undef, tmps.getD t2 undef, tmps.getD t3 undef, tmps.getD t4 undef, tmps.getD t5 undef, tmps.getD t6 undef, tmps.getD t7 undef]) w := by
  simp [results, h]

set_option maxHeartbeats 4000000 in
set_option maxRecDepth 100000 in
theorem state_any (R S1 S2 : Nat) (x1 x2 x3 x4 : Int) (bud : Int) (ch sw : Value) (w : World) (h2 : w.cell? ⟨R, 2, none⟩ = some (.pointer (some ⟨S1, 0, none⟩))) (h3 : w.cell? ⟨R, 3, none⟩ = some (.pointer (some ⟨S2, 0, none⟩)))
    (h4 : w.cell? ⟨R, 4, none⟩ = some (.int .i64 bud)) (h5 : w.cell? ⟨R, 5, none⟩ = some ch) (h6 : w.cell? ⟨R, 6, none⟩ = some sw)
    (hch : ∃ a n c, ch = .slice a n c) (hsw : ∃ a n c, sw = .slice a n c)
    (s1 : w.cell? ⟨S1, 4, none⟩ = some (.int .i64 x1)) (s2 : w.cell? ⟨S1, 5, none⟩ = some (.int .i64 x2)) (s3 : w.cell? ⟨S2, 4, none⟩ = some (.int .i64 x3)) (s4 : w.cell? ⟨S2, 5, none⟩ = some (.int .i64 x4)) :
    Calls Try.prog 36 #[.pointer (some ⟨R, 0, none⟩)] w fun e w' => e = .returned (.tuple #[.int .i64 bud, ch, sw, .int .i64 x1, .int .i64 x2, .int .i64 x3, .int .i64 x4]) ∧ Turns [] w w' := by
  obtain ⟨ca, cn, cc, rfl⟩ := hch
  obtain ⟨sa, sn, sc, rfl⟩ := hsw
  go_enter Try.func36, Try.ntmps36
  go_wp2_with (go_quiet (fail))
  (try simp only [Exit.inBlock, Exit.then])
  refine bodyPost_ret (results_tmp7 rfl _ _ _) rfl ?_
  exact ⟨rfl, (Turns.refl _ _).drewN _⟩

set_option maxHeartbeats 4000000 in
set_option maxRecDepth 100000 in
theorem makeRound_any (vt vl v2 v3 v4 : Value) (x5 x6 x7 x8 x9 x10 x11 x12 bud : Int) (vc : Value) (w : World) (ht : ∃ a, vt = .pointer a) (hl : ∃ a, vl = .pointer a) (h2 : ∃ a n c, v2 = .slice a n c) (h3 : ∃ a n c, v3 = .slice a n c) (h4 : ∃ a n c, v4 = .slice a n c) (hc : ∃ a n c, vc = .slice a n c) :
    Calls Try.prog 21 #[vt, vl, v2, v3, v4, .int .i64 x5, .int .i64 x6, .int .i64 x7, .int .i64 x8, .int .i64 x9, .int .i64 x10, .int .i64 x11, .int .i64 x12, .int .i64 bud, vc] w fun e w' =>
      e = .returned (.pointer (some ⟨w.heap.size + 2, 0, none⟩)) ∧ Turns [] w w' ∧
      Blk w' w.heap.size 74 #[v2, v4, .int .i64 x5, .int .i64 x6, .int .i64 x7, .int .i64 x8] ∧
      Blk w' (w.heap.size + 1) 74 #[v3, v4, .int .i64 x9, .int .i64 x10, .int .i64 x11, .int .i64 x12] ∧
      Blk w' (w.heap.size + 2) 77 #[vt, vl, .pointer (some ⟨w.heap.size, 0, none⟩), .pointer (some ⟨w.heap.size + 1, 0, none⟩), .int .i64 bud, vc, .slice none 0 0, .slice none 0 0, .slice none 0 0] := by
  obtain ⟨at', rfl⟩ := ht
  obtain ⟨al, rfl⟩ := hl
  obtain ⟨a2, n2, c2, rfl⟩ := h2
  obtain ⟨a3, n3, c3, rfl⟩ := h3
  obtain ⟨a4, n4, c4, rfl⟩ := h4
  obtain ⟨ac, nc, cc, rfl⟩ := hc
  go_enter Try.func21, Try.ntmps21
  go_wp2
  go_ret
  exact ⟨rfl, (((Turns.refl _ w).alloc _).alloc _).alloc _, ((blk_new rfl).alloc _).alloc _, (blk_new (by simp)).alloc _, blk_new (by simp)⟩

set_option maxHeartbeats 4000000 in
set_option maxRecDepth 100000 in
theorem stateIs_any (R S1 S2 CH n i k : Nat) (x1 x2 x3 x4 : Int) (bud : Int) (ch : List Bool) (sa : Option Addr) (sc : Nat) (w : World) (h2 : w.cell? ⟨R, 2, none⟩ = some (.pointer (some ⟨S1, 0, none⟩))) (h3 : w.cell? ⟨R, 3, none⟩ = some (.pointer (some ⟨S2, 0, none⟩)))
    (h4 : w.cell? ⟨R, 4, none⟩ = some (.int .i64 bud)) (h5 : w.cell? ⟨R, 5, none⟩ = some (.slice (some ⟨CH, 0, none⟩) n n)) (h6 : w.cell? ⟨R, 6, none⟩ = some (.slice sa k sc))
    (hrs : Row w sa (iv (List.replicate k (i : Int)))) (hk : k ≤ 1048576) (hrc : Row w (some ⟨CH, 0, none⟩) (bv ch)) (hn : n = ch.length) (hbig : n ≤ 1048576) (hch : ∀ j, j < n → bat ch j = decide (j = i))
    (s1 : w.cell? ⟨S1, 4, none⟩ = some (.int .i64 x1)) (s2 : w.cell? ⟨S1, 5, none⟩ = some (.int .i64 x2)) (s3 : w.cell? ⟨S2, 4, none⟩ = some (.int .i64 x3)) (s4 : w.cell? ⟨S2, 5, none⟩ = some (.int .i64 x4)) :
    Calls Try.prog 29 #[.pointer (some ⟨R, 0, none⟩), .int .i64 bud, .int .i64 i, .int .i64 n, .int .i64 k, .int .i64 x1, .int .i64 x2, .int .i64 x3, .int .i64 x4] w fun e w' => e = .returned (.bool true) ∧ Turns [] w w' := by
  have hcall := state_any R S1 S2 x1 x2 x3 x4 bud _ _ w h2 h3 h4 h5 h6 ⟨_, _, _, rfl⟩ ⟨_, _, _, rfl⟩ s1 s2 s3 s4
  have HRS := hide hrs
  have HRC := hide hrc
  have HN := hide hn
  have HCH := hide hch
  clear h2 h3 h4 h5 h6 s1 s2 s3 s4 hrs hrc hn hch
  go_enter Try.func29, Try.ntmps29
  go_wp2_with fail
  refine hcall.mono ?_
  rintro e w1 ⟨rfl, hT⟩
  clear hcall
  have HRS1 := hide (hT.rowAll HRS.out)
  have HRC1 := hide (hT.rowAll HRC.out)
  have HT := hide hT
  clear hT HRS HRC
  go_wp2_with fail
  go_loop [26] (fun s => ∃ j : Nat, j ≤ k ∧ s = .int .i64 j) (fun s => k - (intOf s).toNat)
  case atStart => exact ⟨0, Nat.zero_le _, rfl⟩
  case round =>
    obtain ⟨j, hj, rfl⟩ := hrel
    by_cases hlt : j < k
    · have hlz : (j : Int) < (k : Int) := by omega
      obtain ⟨b1, o1, rfl, _, hc1⟩ := HRS1.out j (.int .i64 i) (by simp [iv, hlt])
      go_wp2_with fail
      go_round
      case rel => exact ⟨j + 1, by omega, by go_num⟩
      case measure => simp [intOf]; omega
    · clear hj
      go_wp2_with fail
      go_loop [27] (fun s => ∃ j : Nat, j ≤ n ∧ s = .int .i64 j) (fun s => n - (intOf s).toNat)
      case atStart => exact ⟨0, Nat.zero_le _, rfl⟩
      case round =>
        obtain ⟨m, hm, rfl⟩ := hrel
        by_cases hlt : m < n
        · have hlz : (m : Int) < (n : Int) := by omega
          obtain ⟨b2, o2, hbo, _, hc2⟩ := HRC1.out m _ (bv_get (by rw [← HN.out]; exact hlt))
          simp only [Option.some.injEq, Addr.mk.injEq, and_true] at hbo
          obtain ⟨rfl, rfl⟩ := hbo
          rw [Nat.zero_add, HCH.out m hlt] at hc2
          by_cases hmi : m = i
          · subst hmi
            rw [decide_eq_true rfl] at hc2
            go_wp2_with fail
            go_round
            case rel => exact ⟨m + 1, by omega, by go_num⟩
            case measure => simp [intOf]; omega
          · rw [decide_eq_false hmi] at hc2
            have hmz : ((m : Int) == (i : Int)) = false := by simp; omega
            go_wp2_with fail
            go_round
            case rel => exact ⟨m + 1, by omega, by go_num⟩
            case measure => simp [intOf]; omega
        · clear hm
          go_wp2_with fail
          go_ret
          exact ⟨rfl, HT.out⟩

end Go.Proofs.Qxb6619598a
