import Derived.Test.Qxb6618694aSpan
import Derived.Laws.CopyOwn
import Derived.OneCell
namespace Go.Proofs.Qxb6618694a
open Go.RowKit Go.WideShapes

/-- It returns a bool, whichever. -/
def RetBool (e : Ending) : Prop := ∃ r, e = .returned (.bool r)

set_option maxHeartbeats 400000 in
theorem bytes3_big (a : Option Addr) (n c : Nat) (key : ByteArray) (z : Int) (w : World) (hbig : 1048576 < n) :
    Calls Try.prog 5 #[.slice a n c, .string key, .int .i64 z] w fun e w' => e = .returned (.bool false) ∧ w' = w := by
  go_enter Try.func5, Try.ntmps5
  go_wp2
  go_ret
  exact ⟨rfl, rfl⟩

set_option maxHeartbeats 1000000 in
theorem bytes3_small (a : Option Addr) (n c : Nat) (ks : List ByteArray) (key : ByteArray) (z : Int) (w : World) (hn : n = ks.length) (hbig : n ≤ 1048576) (hk : StrRow w a ks) :
    Calls Try.prog 5 #[.slice a n c, .string key, .int .i64 z] w fun e w' => RetBool e ∧ w' = w := by
  have HN := hide hn
  have HK := hide hk
  clear hn hk
  go_enter Try.func5, Try.ntmps5
  go_wp2
  go_loop [6, 7, 8] (fun _ s7 s8 => ∃ (j : Nat) (t : Int), j ≤ n ∧ s8 = .int .i64 j ∧ s7 = .int .i64 t) (fun _ _ s8 => n - (intOf s8).toNat)
  case atStart => exact ⟨0, _, Nat.zero_le _, rfl, rfl⟩
  case round =>
    obtain ⟨j, t, hj, rfl, rfl⟩ := hrel
    by_cases hlt : j < n
    · have hlz : (j : Int) < (n : Int) := by omega
      obtain ⟨b, off, rfl, _, hc⟩ := HK.out j (by rw [← HN.out]; exact hlt)
      go_wp2
      all_goals first
        | (go_ret; exact ⟨⟨_, rfl⟩, rfl⟩)
        | skip
      go_round
      case rel => exact ⟨j + 1, _, by omega, by go_num, rfl⟩
      case measure => simp [intOf]; omega
    · have : j = n := by omega
      subst this
      go_wp2
      all_goals (go_ret; exact ⟨⟨_, rfl⟩, rfl⟩)

set_option maxHeartbeats 400000 in
theorem bytes4_big (a : Option Addr) (n c : Nat) (key ins : ByteArray) (z : Int) (w : World) (hbig : 1048576 < n) :
    Calls Try.prog 8 #[.slice a n c, .string key, .int .i64 z, .string ins] w fun e w' => e = .returned (.bool false) ∧ w' = w := by
  go_enter Try.func8, Try.ntmps8
  go_wp2
  go_ret
  exact ⟨rfl, rfl⟩

set_option maxHeartbeats 1000000 in
theorem bytes4_small (a : Option Addr) (n c : Nat) (ks : List ByteArray) (key ins : ByteArray) (z : Int) (w : World) (hn : n = ks.length) (hbig : n ≤ 1048576) (hk : StrRow w a ks) :
    Calls Try.prog 8 #[.slice a n c, .string key, .int .i64 z, .string ins] w fun e w' => RetBool e ∧ w' = w := by
  have HN := hide hn
  have HK := hide hk
  clear hn hk
  go_enter Try.func8, Try.ntmps8
  go_wp2
  go_loop [8, 9, 10] (fun _ s7 s8 => ∃ (j : Nat) (t : Int), j ≤ n ∧ s8 = .int .i64 j ∧ s7 = .int .i64 t) (fun _ _ s8 => n - (intOf s8).toNat)
  case atStart => exact ⟨0, _, Nat.zero_le _, rfl, rfl⟩
  case round =>
    obtain ⟨j, t, hj, rfl, rfl⟩ := hrel
    by_cases hlt : j < n
    · have hlz : (j : Int) < (n : Int) := by omega
      obtain ⟨b, off, rfl, _, hc⟩ := HK.out j (by rw [← HN.out]; exact hlt)
      go_wp2
      all_goals first
        | (go_ret; exact ⟨⟨_, rfl⟩, rfl⟩)
        | skip
      go_round
      case rel => exact ⟨j + 1, _, by omega, by go_num, rfl⟩
      case measure => simp [intOf]; omega
    · have : j = n := by omega
      subst this
      go_wp2
      all_goals (go_ret; exact ⟨⟨_, rfl⟩, rfl⟩)

/-- A row that is owned whole, as a block. -/
theorem own_block {w : World} {B g n : Nat} {xs : List Value} (ho : w.ownsRow B 9 1 (.slice (some ⟨g, 0, none⟩) n n) n xs) : w.heap[g]? = some (.cells xs.toArray 9 (0, 0)) := by
  rcases ho.2 with ⟨h', _⟩ | ⟨g', cap', cur, h', _, hg, _, _, hs, htake⟩
  · simp at h'
  · simp only [Value.slice.injEq, Option.some.injEq, Addr.mk.injEq, and_true, true_and] at h'
    obtain ⟨rfl, rfl⟩ := h'
    rw [List.take_of_length_le (by simp; omega)] at htake
    rw [hg, ← htake]

theorem row_block {w : World} {g : Nat} {ks : List ByteArray} (hg : w.heap[g]? = some (.cells (ks.map Value.string).toArray 9 (0, 0))) : StrRow w (some ⟨g, 0, none⟩) ks := by
  intro j hj
  refine ⟨g, 0, rfl, lt_of_block hg, ?_⟩
  rw [Nat.zero_add, cell_of_row w g j _ 9 (0, 0) hg]
  simp [hj]

theorem splice_all {α : Type} (L cs : List α) (h : cs.length = L.length) : splice L 0 cs = cs := by
  simp [splice, h]

/-- 'copy(zzc, keys)', zzc just made, as long as keys. -/
theorem copy_run {w w1 : World} {B g n c : Nat} {ad : Addr} {ks : List ByteArray} {cur : List Value} (hn : n = ks.length) (hk : StrRow w (some ad) ks) (hb : Below w.heap.size w w1)
    (hB : B ≤ w.heap.size) (hBg : B ≤ g) (hg : w1.heap[g]? = some (.cells cur.toArray 9 (0, 0))) (hl : cur.length = n) :
    ∃ w2, (Builtin.copy_ #[22, 22] 3 #[.slice (some ⟨g, 0, none⟩) n n, .slice (some ad) n c]).run Try.prog w1 = .ok (.int .i64 n) w2 ∧ Below B w w2 ∧ w2.heap[g]? = some (.cells (ks.map Value.string).toArray 9 (0, 0)) := by
  have hrun := run_copy_row (P := Try.prog) w1 22 22 3 9 g 0 n n ad n c cur.toArray 9 (ks.map Value.string) Try.underlying22 (by kernel_rfl) hg (by simp [hn])
    (fun j v hj => by
      have hj' : j < ks.length := by
        have := (List.getElem?_eq_some_iff.1 hj).1
        simpa using this
      obtain ⟨b', off', e', hlt, hc⟩ := hk j hj'
      simp only [Option.some.injEq] at e'
      subst e'
      rw [add_plain, hb.cell (p := ⟨b', off' + j, none⟩) hlt, hc]
      simp [hj'] at hj
      simp [hj', hj]) (by simp; omega) (by simp [Value.oneCell'])
  have e : List.take 0 cur.toArray.toList ++ ks.map Value.string ++ List.drop (0 + (ks.map Value.string).length) cur.toArray.toList = ks.map Value.string := by
    have : List.drop ks.length cur = [] := List.drop_of_length_le (by omega)
    simp [this]
  rw [e] at hrun
  refine ⟨_, ?_, below_setRow (hb.mono hB) hBg _, setRow_heap w1 g _ _ 9 _ hg⟩
  rw [hrun]
  simp [goInt, hn]

end Go.Proofs.Qxb6618694a
