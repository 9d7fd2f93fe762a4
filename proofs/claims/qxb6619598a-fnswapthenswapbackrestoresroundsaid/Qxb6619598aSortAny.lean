import Derived.Test.Qxb6619598aShelf
import Derived.Test.Qxb6619598aShift
namespace Go.Proofs.Qxb6619598a
open Go.RowKit Go.WideShapes Go.Sort

def mkB (l : List UInt8) : ByteArray := ⟨l.toArray⟩
theorem mkB_toList (b : ByteArray) : mkB b.toList = b := by rw [ByteArray.toList_eq]; simp [mkB]
theorem toList_mkB (l : List UInt8) : (mkB l).toList = l := ByteArray.toList_mk l
def srt (ks : List ByteArray) : List ByteArray := ((ks.map ByteArray.toList).mergeSort fun x y => decide (x ≤ y)).map mkB
theorem srt_len (ks : List ByteArray) : (srt ks).length = ks.length := by simp [srt]
theorem enc_mkB (l : List UInt8) : encStr l = .string (mkB l) := rfl

theorem sort_any (FB n c : Nat) (ks : List ByteArray) (w : World) (h : Blk w FB 9 (sv ks).toArray) (hn : n = ks.length) (hbig : n ≤ 1048576) :
    Calls Try.prog 42 #[.slice (some ⟨FB, 0, none⟩) n c] w fun e w' => e = .returned (.tuple #[]) ∧ Turns [FB] w w' ∧ Blk w' FB 9 (sv (srt ks)).toArray := by
  have hb : w.heap[FB]? = some (.cells (sv ks).toArray 9 (0, 0)) := h
  have henc : (ks.map ByteArray.toList).map encStr = sv ks := by
    rw [sv, List.map_map]
    apply List.map_congr_left
    intro b _
    show encStr b.toList = .string b
    rw [enc_mkB, mkB_toList]
  have hH : Holds encStr w FB 0 (ks.map ByteArray.toList).toArray := holds_of_block hb (by
    rw [henc]
    exact List.take_of_length_le (by simp [sv]))
  have hl : (ks.map ByteArray.toList).length = n := by simp [hn]
  have hc := Try.slices_Sort_string FB 0 c (ks.map ByteArray.toList) w hH h.lt (by rw [hl]; omega)
  rw [hl] at hc
  refine hc.mono ?_
  rintro e w' ⟨rfl, q, os, rfl⟩
  refine ⟨rfl, (Turns.refl _ _).grown (grownBy_sorted _) (by simp), ?_⟩
  have hs := heap_sorted (w := w) (g := FB) (n := q) (os := os) ((ks.map ByteArray.toList).mergeSort fun x y => decide (x ≤ y)).toArray hb
  have ht := take_putCells (sv ks).toArray ((ks.map ByteArray.toList).mergeSort fun x y => decide (x ≤ y)) (by simp [sv])
  have e1 : (putCells encStr 0 ((ks.map ByteArray.toList).mergeSort fun x y => decide (x ≤ y)).toArray (sv ks).toArray) = (sv (srt ks)).toArray := by
    rw [List.take_of_length_le (by simp [putCells, sv])] at ht
    have h2 : (((ks.map ByteArray.toList).mergeSort fun x y => decide (x ≤ y)).map encStr) = sv (srt ks) := by
      rw [sv, srt, List.map_map]; rfl
    rw [← h2, ← ht]
  rw [e1] at hs
  exact hs

end Go.Proofs.Qxb6619598a
