import Derived.Test.Qxb6619598aPrem
import Derived.Sort.OwnSorted
namespace Go.Proofs.Qxb6619598a
open Go.RowKit Go.WideShapes

/-- Block k is the row cs, none of it frozen. -/
def Blk (w : World) (k : Nat) (t : TypeId) (cs : Array Value) : Prop := w.heap[k]? = some (.cells cs t (0, 0))
theorem Blk.lt {w : World} {k : Nat} {t : TypeId} {cs : Array Value} (h : Blk w k t cs) : k < w.heap.size := (Array.getElem?_eq_some_iff.1 h).1
theorem Blk.cell {w : World} {k : Nat} {t : TypeId} {cs : Array Value} (h : Blk w k t cs) {j : Nat} {v : Value} (hj : cs[j]? = some v) : w.cell? ⟨k, j, none⟩ = some v := by
  have h' : w.heap[k]? = some (.cells cs t (0, 0)) := h
  simp [World.cell?, h', hj]
theorem Blk.frozen {w : World} {k : Nat} {t : TypeId} {cs : Array Value} (h : Blk w k t cs) (j : Nat) : w.frozen? ⟨k, j, none⟩ = false := frozen_of_row w k j cs t h
theorem Blk.set {w : World} {k : Nat} {t : TypeId} {cs : Array Value} (h : Blk w k t cs) (j : Nat) (v : Value) : Blk (w.setCell ⟨k, j, none⟩ v) k t (cs.setIfInBounds j v) := heap_setCell_same w k j cs t v h
theorem Blk.setOther {w : World} {k : Nat} {t : TypeId} {cs : Array Value} (h : Blk w k t cs) {a : Addr} (ha : k ≠ a.block) (v : Value) : Blk (w.setCell a v) k t cs := (heap_setCell_other w a k v ha).trans h
theorem Blk.drew {w : World} {k : Nat} {t : TypeId} {cs : Array Value} (h : Blk w k t cs) : Blk w.drew k t cs := h
theorem Blk.alloc {w : World} {k : Nat} {t : TypeId} {cs : Array Value} (h : Blk w k t cs) (o : Obj) : Blk (w.alloc o) k t cs := (Below.heap_alloc w o k h.lt).trans h
theorem Blk.row {w : World} {k : Nat} {t : TypeId} {cs : Array Value} (h : Blk w k t cs) (vs : List Value) (e : cs = vs.toArray) : Row w (some ⟨k, 0, none⟩) vs := by
  intro j v hj
  refine ⟨k, 0, rfl, h.lt, ?_⟩
  rw [Nat.zero_add]
  exact h.cell (by rw [e]; simpa using hj)

/-- Nothing has turned but the blocks of S; new blocks may have come. -/
structure Turns (S : List Nat) (w w' : World) : Prop where
  os : w'.os = w.os
  tape : w'.tape = w.tape
  output : w'.output = w.output
  size : w.heap.size ≤ w'.heap.size
  block : ∀ k, k < w.heap.size → k ∉ S → w'.heap[k]? = w.heap[k]?
theorem Turns.refl (S : List Nat) (w : World) : Turns S w w := ⟨rfl, rfl, rfl, Nat.le_refl _, fun _ _ _ => rfl⟩
theorem Turns.trans {S : List Nat} {a b c : World} (h : Turns S a b) (k : Turns S b c) : Turns S a c :=
  ⟨k.os.trans h.os, k.tape.trans h.tape, k.output.trans h.output, Nat.le_trans h.size k.size, fun i hi hn => (k.block i (Nat.lt_of_lt_of_le hi h.size) hn).trans (h.block i hi hn)⟩
theorem Turns.mono {S T : List Nat} {a b : World} (h : Turns S a b) (hs : ∀ k, k ∈ S → k ∈ T) : Turns T a b := ⟨h.os, h.tape, h.output, h.size, fun i hi hn => h.block i hi (fun e => hn (hs i e))⟩
theorem Turns.drew {S : List Nat} {a b : World} (h : Turns S a b) : Turns S a b.drew := ⟨h.os, h.tape, h.output, h.size, h.block⟩
theorem Turns.drewN {S : List Nat} {a b : World} (h : Turns S a b) (n : Nat) : Turns S a (b.drewN n) := ⟨h.os, h.tape, h.output, h.size, h.block⟩
theorem Blk.drewN {w : World} {k : Nat} {t : TypeId} {cs : Array Value} (h : Blk w k t cs) (n : Nat) : Blk (w.drewN n) k t cs := h
theorem Turns.setCell {S : List Nat} {a b : World} (h : Turns S a b) {p : Addr} (hp : p.block ∈ S) (v : Value) : Turns S a (b.setCell p v) :=
  ⟨h.os, h.tape, h.output, by simpa [World.setCell] using h.size, fun i hi hn => (heap_setCell_other b p i v (fun e => hn (e ▸ hp))).trans (h.block i hi hn)⟩
theorem Turns.setNew {S : List Nat} {a b : World} (h : Turns S a b) {p : Addr} (hp : a.heap.size ≤ p.block) (v : Value) : Turns S a (b.setCell p v) :=
  ⟨h.os, h.tape, h.output, by simpa [World.setCell] using h.size, fun i hi hn => (heap_setCell_other b p i v (by omega)).trans (h.block i hi hn)⟩
theorem Turns.alloc {S : List Nat} {a b : World} (h : Turns S a b) (o : Obj) : Turns S a (b.alloc o) :=
  ⟨h.os, h.tape, h.output, Nat.le_trans h.size (by simp), fun i hi hn => (Below.heap_alloc b o i (Nat.lt_of_lt_of_le hi h.size)).trans (h.block i hi hn)⟩
theorem Turns.grown {S : List Nat} {a b c : World} {r : Option Nat} (h : Turns S a b) (hg : b.grownBy c r) (hr : ∀ k, r = some k → k ∈ S) : Turns S a c :=
  h.trans ⟨hg.os, hg.tape, hg.output, hg.size, fun k hk hn => hg.block k hk (fun e => hn (hr k e.symm))⟩
theorem turns_of_below {w w' : World} (h : Below w.heap.size w w') : Turns [] w w' := ⟨h.os, h.tape, h.output, h.size, fun k hk _ => h.block k hk⟩
theorem Turns.below {S : List Nat} {W w w' : World} {B : Nat} (h : Turns S w w') (hb : Below B W w) (hB : B ≤ w.heap.size) (hS : ∀ k, k ∈ S → B ≤ k) : Below B W w' :=
  hb.trans ⟨h.os, h.tape, h.output, h.size, fun k hk => h.block k (by omega) (fun e => by have := hS k e; omega)⟩
theorem Turns.kept {S : List Nat} {w w' : World} (h : Turns S w w') {k : Nat} {t : TypeId} {cs : Array Value} (hb : Blk w k t cs) (hn : k ∉ S) : Blk w' k t cs := (h.block k hb.lt hn).trans hb
theorem Turns.row {S : List Nat} {w w' : World} (h : Turns S w w') {a : Option Addr} {vs : List Value} (hr : Row w a vs) (hn : ∀ b off, a = some ⟨b, off, none⟩ → b ∉ S) : Row w' a vs := by
  intro j v hj
  obtain ⟨b, off, e, hlt, hc⟩ := hr j v hj
  exact ⟨b, off, e, Nat.lt_of_lt_of_le hlt h.size, (World.cell?_of_block (w := w) (h.block b hlt (hn b off e))).trans hc⟩
theorem Turns.rowAll {w w' : World} (h : Turns [] w w') {a : Option Addr} {vs : List Value} (hr : Row w a vs) : Row w' a vs := h.row hr (by simp)
theorem Turns.cell {S : List Nat} {w w' : World} (h : Turns S w w') {p : Addr} {v : Value} (hc : w.cell? p = some v) (hn : p.block ∉ S) : w'.cell? p = some v :=
  (World.cell?_of_block (w := w) (h.block p.block (block_lt_of_cell hc) hn)).trans hc

end Go.Proofs.Qxb6619598a
