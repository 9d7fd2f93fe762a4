import Derived.Test.Qxb6619598aLaw
import Derived.ProofKit
import Derived.OpenShut
import Derived.ShutString
import Derived.ChangeOld
import Derived.Below
import Derived.SliceStrings
import Derived.Deep.Slices
import Derived.Deep.Grids
namespace Go.Proofs.Qxb6619598a
open Go.ChangeShapes Go.WideShapes Go.ChangeAt Go.RowKit

/-- What came in as a slice: nil, or a row that begins with vs. -/
def IsRow (w : World) (a : Option Addr) (len cap : Nat) (vs : List Value) : Prop := len = vs.length ∧ Row w a vs ∧ (a = none → len = 0 ∧ cap = 0)

theorem row_of_cells {w : World} {x : Addr} {len : Nat} (f : Nat → Value) (h : ∀ j, j < len → w.cell? (x.add j) = some (f j)) : Row w (some x) ((List.range len).map f) := by
  intro j v hj
  have hlt : j < len := by have := (List.getElem?_eq_some_iff.1 hj).1; simpa using this
  have hv : v = f j := by simpa [hlt] using hj.symm
  obtain ⟨b, off, spot⟩ := x
  have hspot : spot = none := by simpa [Addr.add] using World.cell?_spot (h 0 (by omega))
  subst hspot
  have hc := h j hlt
  rw [add_plain] at hc
  exact ⟨b, off, rfl, block_lt_of_cell hc, by rw [hv]; exact hc⟩

section
variable {H : Type} {enc : TypeId × Value → H} {W : World} {a : Option Addr} {len cap fuel : Nat} {x : DataW H × List MemPlace}

theorem strs_of (hf : DataW.trod enc Try.prog W 0 (fun _ => true) true fuel 22 (Value.slice a len cap).cells.toList = some x) : ∃ ks, IsRow W a len cap (sv ks) ∧ ∀ s ∈ ks, s.size ≤ maxLen := by
  rcases open_strings Try.underlying22 Try.underlying9 (by kernel_rfl) hf with ⟨hcs, _⟩ | ⟨x, l, c, ss, hcs, _, hl, hm, hz, _, hcell, hwz⟩
  · simp [Value.cells] at hcs
    obtain ⟨rfl, rfl, rfl⟩ := hcs
    exact ⟨[], ⟨rfl, row_nil _ _, fun _ => ⟨rfl, rfl⟩⟩, by simp⟩
  · simp [Value.cells] at hcs
    obtain ⟨rfl, rfl, rfl⟩ := hcs
    simp only [if_true] at hz
    refine ⟨ss.take len, ⟨by simp [sv]; omega, ?_, fun h => by simp at h⟩, fun s hs => hwz s (List.mem_of_mem_take hs)⟩
    have h := row_of_cells (w := W) (x := x) (len := len) (fun j => .string (ss.getD j ByteArray.empty)) (fun j hj => hcell j (by omega))
    have e : (List.range len).map (fun j => Value.string (ss.getD j ByteArray.empty)) = sv (ss.take len) := by
      apply List.ext_getElem?
      intro j
      by_cases hj : j < len
      · have : j < ss.length := by omega
        simp [sv, hj, this]
      · simp [sv, hj]; omega
    rw [e] at h
    exact h
theorem ints_of (hf : DataW.trod enc Try.prog W 0 (fun _ => true) true fuel 28 (Value.slice a len cap).cells.toList = some x) : ∃ zs, IsRow W a len cap (iv zs) := by
  rcases open_ints Try.underlying28 Try.underlying3 (by kernel_rfl) hf with ⟨hcs, _⟩ | ⟨x, l, c, ss, hcs, _, hl, hm, hz, _, hcell, hwz⟩
  · simp [Value.cells] at hcs
    obtain ⟨rfl, rfl, rfl⟩ := hcs
    exact ⟨[], rfl, row_nil _ _, fun _ => ⟨rfl, rfl⟩⟩
  · simp [Value.cells] at hcs
    obtain ⟨rfl, rfl, rfl⟩ := hcs
    simp only [if_true] at hz
    refine ⟨ss.take len, by simp [iv]; omega, ?_, fun h => by simp at h⟩
    have h := row_of_cells (w := W) (x := x) (len := len) (fun j => .int .i64 (ss.getD j 0)) (fun j hj => hcell j (by omega))
    have e : (List.range len).map (fun j => Value.int .i64 (ss.getD j 0)) = iv (ss.take len) := by
      apply List.ext_getElem?
      intro j
      by_cases hj : j < len
      · have : j < ss.length := by omega
        simp [iv, hj, this]
      · simp [iv, hj]; omega
    rw [e] at h
    exact h
theorem bools_of (hf : DataW.trod enc Try.prog W 0 (fun _ => true) true fuel 29 (Value.slice a len cap).cells.toList = some x) : ∃ bs, IsRow W a len cap (bv bs) := by
  rcases Deep.open_bools Try.underlying29 Try.underlying4 (by kernel_rfl) hf with ⟨hcs, _⟩ | ⟨x, l, c, B, hcs, _, hl, hm, _, hcell⟩
  · simp [Value.cells] at hcs
    obtain ⟨rfl, rfl, rfl⟩ := hcs
    exact ⟨[], rfl, row_nil _ _, fun _ => ⟨rfl, rfl⟩⟩
  · simp [Value.cells] at hcs
    obtain ⟨rfl, rfl, rfl⟩ := hcs
    refine ⟨(List.range len).map B, by simp [bv], ?_, fun h => by simp at h⟩
    have h := row_of_cells (w := W) (x := x) (len := len) (fun j => .bool (B j)) (fun j hj => hcell j (by omega))
    rw [bv, List.map_map]
    exact h
theorem cell_of {v : Value} (hf : DataW.trod enc Try.prog W 0 (fun _ => true) true fuel 22 [v] = some x) : ∃ f : FL, v = .slice f.a f.ks.length f.c ∧ Row W f.a (sv f.ks) ∧ (f.a = none → f.ks = [] ∧ f.c = 0) := by
  have hsh : ∃ a l c, v = .slice a l c := by
    rcases open_strings Try.underlying22 Try.underlying9 (by kernel_rfl) hf with ⟨hcs, _⟩ | ⟨x, l, c, ss, hcs, _⟩
    · simp at hcs; exact ⟨_, _, _, hcs⟩
    · simp at hcs; exact ⟨_, _, _, hcs⟩
  obtain ⟨a, l, c, rfl⟩ := hsh
  obtain ⟨ks, ⟨h1, h2, h3⟩, _⟩ := strs_of (a := a) (len := l) (cap := c) hf
  have hl : l = ks.length := by rw [h1]; simp [sv]
  have hnil : a = none → ks = [] ∧ c = 0 := fun h => ⟨List.eq_nil_of_length_eq_zero (by have := (h3 h).1; omega), (h3 h).2⟩
  exact ⟨⟨a, c, ks⟩, by simp [hl], h2, hnil⟩
theorem rows_of (hf : DataW.trod enc Try.prog W 0 (fun _ => true) true fuel 42 (Value.slice a len cap).cells.toList = some x) : ∃ fs, len = fs.length ∧ FRow W a fs := by
  rcases Deep.open_slice1 Try.underlying42 (by kernel_rfl) hf with ⟨hcs, _⟩ | ⟨x, l, c, m, n, V, D, Pl, hcs, _, hl, hm, hmm, _, hcell⟩
  · simp [Value.cells] at hcs
    obtain ⟨rfl, rfl, rfl⟩ := hcs
    exact ⟨[], rfl, row_nil _ _, fun k hk => absurd hk (Nat.not_lt_zero _)⟩
  · simp [Value.cells] at hcs
    obtain ⟨rfl, rfl, rfl⟩ := hcs
    simp only [if_true] at hmm
    subst hmm
    have hF : ∀ i, i < m → ∃ f : FL, V i = .slice f.a f.ks.length f.c ∧ Row W f.a (sv f.ks) ∧ (f.a = none → f.ks = [] ∧ f.c = 0) := fun i hi => cell_of (hcell i hi).2
    have : Inhabited FL := ⟨fl0⟩
    obtain ⟨F, hF⟩ := Deep.choose_lt hF
    refine ⟨(List.range len).map F, by simp, ?_, fun k hk => ?_⟩
    · have h := row_of_cells (w := W) (x := x) (len := len) (fun j => .slice (F j).a (F j).ks.length (F j).c) (fun j hj => by rw [(hcell j (by omega)).1, (hF j (by omega)).1])
      rw [fv, List.map_map]
      exact h
    · have hk' : k < len := by simpa using hk
      have e : fat ((List.range len).map F) k = F k := by simp [fat, hk']
      rw [e]
      exact (hF k (by omega)).2
end

end Go.Proofs.Qxb6619598a
