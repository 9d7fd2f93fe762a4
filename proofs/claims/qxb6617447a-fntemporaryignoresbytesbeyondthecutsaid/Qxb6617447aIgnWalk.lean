import Derived.Test.Qxb6617447aBytes
namespace Go.Proofs.Qxb6617447a
open Go.RowKit

set_option maxHeartbeats 1000000 in
theorem ign_walk (base tail random : ByteArray) (limit : Int) (hl2 : limit ≤ 9223372036854775807) (w : World) :
    Calls Try.prog 4 #[.string base, .string tail, .string random, .int .i64 limit] w fun e w' => e = .returned (.bool true) ∧ Grown w w' := by
  have hB := bytes4 base tail random limit w
  go_enter Try.func4, Try.ntmps4
  go_wp2_with fail
  refine hB.mono ?_
  rintro e w' ⟨⟨r, rfl⟩, hw'⟩
  subst hw'
  clear hB
  cases r with
  | false =>
    go_wp2_with fail
    go_ret
    exact ⟨rfl, Grown.refl _⟩
  | true =>
    go_wp2_with fail
    all_goals first
      | (go_ret; exact ⟨rfl, Grown.refl _⟩)
      | skip
    have g1 : (base.size : Int) ≤ 262144 := by assumption
    have g2 : (tail.size : Int) ≤ 262144 := by assumption
    have g3 : (random.size : Int) ≤ 262144 := by assumption
    have g4 : -1073741824 ≤ limit := by assumption
    have g5 : limit < (base.size : Int) + ((random.size : Int) + 6) := by assumption
    refine (zzTemporary_any base random limit (by omega) (by omega) g4 hl2 _).mono ?_
    rintro e w1 ⟨rfl, hw⟩
    subst hw
    have HK := hide (kept_append base tail random limit g5)
    have HX := hide (extract_append base tail (kept base random limit) (kept_le _ _ _))
    have HT := hide (zzTemporary_any (base ++ tail) random limit (by simp; omega) (by omega) g4 hl2 w1)
    have HS := hide (split_any base random (kept base random limit) (by omega) (by omega) (kept_le _ _ _) w1)
    have HZ := hide (nm_size (base.extract 0 (kept base random limit)) random)
    have HE := hide (extract_size base (kept base random limit) (kept_le _ _ _))
    have HR := hide (kept_room base random limit)
    have HT2 := hide (show Calls Try.prog 7 #[.string (base ++ tail), .string random, .int .i64 limit] w1 fun e w' => e = .returned (.string (nm (base.extract 0 (kept base random limit)) random)) ∧ w' = w1 by
      have := HT.out
      rw [HK.out, HX.out] at this
      exact this)
    clear HT HK HX
    have HZ2 := hide (show ((nm (base.extract 0 (kept base random limit)) random).size : Int) = (kept base random limit : Int) + (random.size : Int) + 6 by rw [HZ.out, HE.out]; omega)
    clear HZ HE
    generalize hout : nm (base.extract 0 (kept base random limit)) random = out at *
    generalize hkk : kept base random limit = k at *
    have HO := hide hout
    clear hout hkk
    go_wp2_with fail
    refine HT2.out.mono ?_
    rintro e w2 ⟨rfl, hw⟩
    subst hw
    go_wp2_with fail
    refine HS.out.mono ?_
    rintro e w3 ⟨rfl, hg⟩
    clear HS HT2
    have HG := hide (show Grown w2 w3 by rw [hg]; exact Grown.drew (Grown.refl _))
    clear hg
    by_cases hn : (random.size : Int) + 6 ≤ limit
    · have hsz : (out.size : Int) ≤ limit := by have := HR.out hn; have := HZ2.out; omega
      go_wp2_with fail
      go_ret
      exact ⟨rfl, HG.out⟩
    · go_wp2_with fail
      go_ret
      exact ⟨rfl, HG.out⟩
end Go.Proofs.Qxb6617447a
