import Derived.Test.Qxb6619598aSt
import Derived.Test.Qxb6619598aIns
namespace Go.Proofs.Qxb6619598a
open Go.RowKit Go.WideShapes

def bl (a b : ByteArray) : Prop := a.toList < b.toList
theorem bl_irrefl (a : ByteArray) : ¬ bl a a := List.lt_irrefl _
theorem bl_trans {a b c : ByteArray} (h1 : bl a b) (h2 : bl b c) : bl a c := List.lt_trans h1 h2
theorem bl_total {a b : ByteArray} (h : a ≠ b) : bl a b ∨ bl b a := by
  by_cases h1 : bl a b
  · exact .inl h1
  · by_cases h2 : bl b a
    · exact .inr h2
    · exact (h (toList_inj (List.le_antisymm (List.not_lt.1 h2) (List.not_lt.1 h1)))).elim
theorem less_iff (a b : ByteArray) : Op.bytesLess a.toList b.toList = true ↔ bl a b := by rw [bytesLess_eq]; simp [bl]

theorem sat_get {ks : List ByteArray} {j : Nat} (h : j < ks.length) : sat ks j = ks[j] := by simp [sat, h]
theorem inc_pw {ks : List ByteArray} (h : inc ks) : ks.Pairwise bl := by
  rw [List.pairwise_iff_getElem]
  intro i j hi hj hij
  have := inc_lt h hij hj
  rw [sat_get hi, sat_get hj] at this
  exact this

/-- Two lists that hold the same, both strictly increasing, are one. -/
theorem pw_unique : ∀ {L M : List ByteArray}, L.Perm M → L.Pairwise bl → M.Pairwise bl → L = M := by
  intro L
  induction L with
  | nil => intro M hp _ _; exact (List.nil_perm.1 hp).symm
  | cons a L ih =>
    intro M hp hL hM
    cases M with
    | nil => exact absurd hp.length_eq (by simp)
    | cons b M =>
      have e : a = b := by
        by_cases h : a = b
        · exact h
        · have h1 : a ∈ b :: M := hp.subset (by simp)
          have h2 : b ∈ a :: L := hp.symm.subset (by simp)
          have h1' : a ∈ M := by simpa [h] using h1
          have h2' : b ∈ L := (List.mem_cons.1 h2).resolve_left (fun e => h e.symm)
          have := (List.pairwise_cons.1 hL).1 b h2'
          have := (List.pairwise_cons.1 hM).1 a h1'
          exact (bl_irrefl a (bl_trans ‹bl a b› this)).elim
      subst e
      rw [ih hp.cons_inv (List.pairwise_cons.1 hL).2 (List.pairwise_cons.1 hM).2]

theorem srt_perm (ks : List ByteArray) : (srt ks).Perm ks := by
  have h := (List.mergeSort_perm (ks.map ByteArray.toList) (fun x y => decide (x ≤ y))).map mkB
  have e : (ks.map ByteArray.toList).map mkB = ks := by
    rw [List.map_map]
    conv => rhs; rw [← List.map_id ks]
    apply List.map_congr_left
    intro b _
    exact mkB_toList b
  rw [e] at h
  exact h
theorem pw_nodup {ks : List ByteArray} (h : ks.Pairwise bl) : ks.Nodup := h.imp fun hab e => by subst e; exact bl_irrefl _ hab
theorem srt_pw {ks : List ByteArray} (h : ks.Nodup) : (srt ks).Pairwise bl := by
  have hs : ((ks.map ByteArray.toList).mergeSort fun x y => decide (x ≤ y)).Pairwise (fun x y => decide (x ≤ y) = true) :=
    List.pairwise_mergeSort (fun a b c h1 h2 => by simp only [decide_eq_true_eq] at *; exact List.le_trans h1 h2) (fun a b => by simp only [Bool.or_eq_true, decide_eq_true_eq]; exact List.le_total a b) _
  have hn : (srt ks).Nodup := (srt_perm ks).nodup_iff.2 h
  have h2 : (srt ks).Pairwise (fun a b => a.toList ≤ b.toList) := by
    rw [srt, List.pairwise_map]
    exact hs.imp (fun hab => by simpa [toList_mkB] using hab)
  rw [List.Nodup] at hn
  exact (h2.and hn).imp (fun {a b} hab => by
    rcases bl_total hab.2 with h1 | h1
    · exact h1
    · exact (List.not_lt.2 hab.1 h1).elim)

theorem idxFrom_spec (x : ByteArray) : ∀ (ks : List ByteArray) (i : Nat), (idxFrom x i ks = -1 ∧ x ∉ ks) ∨ ∃ j, j < ks.length ∧ idxFrom x i ks = ((i + j : Nat) : Int) ∧ sat ks j = x := by
  intro ks
  induction ks with
  | nil => intro i; exact .inl ⟨rfl, by simp⟩
  | cons k ks ih =>
    intro i
    by_cases h : (k.toList == x.toList) = true
    · exact .inr ⟨0, by simp, by simp [idxFrom, h], by simp [sat]; exact toList_inj (by simpa using h)⟩
    · rw [idxFrom, if_neg h]
      rcases ih (i + 1) with ⟨h1, h2⟩ | ⟨j, hj, h1, h2⟩
      · refine .inl ⟨h1, ?_⟩
        intro hm
        rcases List.mem_cons.1 hm with e | e
        · exact h (by rw [e]; simp)
        · exact h2 e
      · exact .inr ⟨j + 1, by simpa using hj, by rw [h1]; congr 1; omega, by simpa [sat] using h2⟩
theorem idx_neg {ks : List ByteArray} {x : ByteArray} (h : idx ks x < 0) : x ∉ ks := by
  rcases idxFrom_spec x ks 0 with ⟨_, h2⟩ | ⟨j, _, h1, _⟩
  · exact h2
  · rw [idx, h1] at h; omega
theorem idx_pos {ks : List ByteArray} {x : ByteArray} (h : 0 ≤ idx ks x) : idx ks x < ks.length ∧ sat ks (idx ks x).toNat = x := by
  rcases idxFrom_spec x ks 0 with ⟨h1, _⟩ | ⟨j, hj, h1, h2⟩
  · rw [idx, h1] at h; omega
  · rw [idx, h1]; refine ⟨by omega, ?_⟩
    rw [show ((0 + j : Nat) : Int).toNat = j by omega]; exact h2
theorem idx_mem {ks : List ByteArray} {x : ByteArray} (h : x ∈ ks) : 0 ≤ idx ks x := by
  by_cases hn : idx ks x < 0
  · exact (idx_neg hn h).elim
  · omega
theorem sat_mem {ks : List ByteArray} {j : Nat} (h : j < ks.length) : sat ks j ∈ ks := by rw [sat_get h]; exact List.getElem_mem h

theorem wo_perm {x : ByteArray} : ∀ {ks : List ByteArray}, ks.Nodup → x ∈ ks → ks.Perm (x :: wo ks x) := by
  intro ks
  induction ks with
  | nil => intro _ h; simp at h
  | cons k L ih =>
    intro hn hm
    by_cases e : k = x
    · subst e
      have hk : k ∉ L := (List.nodup_cons.1 hn).1
      have : wo (k :: L) k = L := by
        rw [wo, List.filter_cons_of_neg (by simp)]
        exact List.filter_eq_self.2 (fun z hz => by
          simp only [Bool.not_eq_true', beq_eq_false_iff_ne, ne_eq]
          intro h; exact hk (toList_inj h ▸ hz))
      rw [this]
    · have hx : x ∈ L := (List.mem_cons.1 hm).resolve_left (fun h => e h.symm)
      have : wo (k :: L) x = k :: wo L x := by
        rw [wo, List.filter_cons_of_pos (by simp only [Bool.not_eq_true', beq_eq_false_iff_ne, ne_eq]; exact fun h => e (toList_inj h))]; rfl
      rw [this]
      exact ((ih (List.nodup_cons.1 hn).2 hx).cons k).trans (List.Perm.swap x k _)
theorem wo_pw {ks : List ByteArray} (x : ByteArray) (h : ks.Pairwise bl) : (wo ks x).Pairwise bl := h.filter _
theorem wo_mem {ks : List ByteArray} {x z : ByteArray} (h : z ∈ wo ks x) : z ∈ ks := (List.mem_filter.1 h).1

theorem set_perm {ks : List ByteArray} {p : Nat} (y : ByteArray) (h : p < ks.length) : (ks.set p y).Perm (y :: ks.eraseIdx p) := by
  rw [List.set_eq_take_append_cons_drop, if_pos h, List.eraseIdx_eq_take_drop_succ]
  exact List.perm_middle
theorem erase_perm {ks : List ByteArray} {p : Nat} (h : p < ks.length) : ks.Perm (sat ks p :: ks.eraseIdx p) := by
  have := set_perm (sat ks p) h
  rw [sat_get h, List.set_getElem_self] at this
  rw [sat_get h]; exact this

theorem insTo_spec {ks : List ByteArray} {x : ByteArray} (hp : ks.Pairwise bl) (hx : x ∉ ks) : ∀ j, j ≤ ks.length →
    ((insTo ks x j).2 = false → (insTo ks x j).1 = ks.take j ∧ ∀ z ∈ ks.take j, bl z x) ∧
    ((insTo ks x j).2 = true → (insTo ks x j).1.Perm (x :: ks.take j) ∧ (insTo ks x j).1.Pairwise bl ∧ ∀ s, j ≤ s → s < ks.length → bl x (sat ks s)) := by
  intro j
  induction j with
  | zero => intro _; exact ⟨fun _ => ⟨rfl, by simp⟩, fun h => by simp [insTo] at h⟩
  | succ j ih =>
    intro hj
    obtain ⟨i1, i2⟩ := ih (by omega)
    have htake : ks.take (j + 1) = ks.take j ++ [sat ks j] := by rw [List.take_succ_eq_append_getElem (by omega), sat_get (by omega)]
    have hpt : (ks.take (j + 1)).Pairwise bl := hp.sublist (List.take_sublist _ _)
    have hbef : ∀ z ∈ ks.take j, bl z (sat ks j) := by
      rw [htake, List.pairwise_append] at hpt
      exact fun z hz => hpt.2.2 z hz _ (by simp)
    have hpj : (ks.take j).Pairwise bl := hp.sublist (List.take_sublist _ _)
    have hlater : ∀ s, j < s → s < ks.length → bl (sat ks j) (sat ks s) := fun s h1 h2 => by
      rw [sat_get (show j < ks.length by omega), sat_get h2]; exact List.pairwise_iff_getElem.1 hp j s (by omega) h2 h1
    cases hq : (insTo ks x j).2 with
    | true =>
      obtain ⟨a1, a2, a3⟩ := i2 hq
      have e : insTo ks x (j + 1) = ((insTo ks x j).1 ++ [sat ks j], true) := by rw [insTo, hq]; rfl
      rw [e]
      refine ⟨fun h => by simp at h, fun _ => ⟨?_, ?_, fun s h1 h2 => a3 s (by omega) h2⟩⟩
      · rw [htake]; exact a1.append_right [sat ks j]
      · rw [List.pairwise_append]
        refine ⟨a2, List.pairwise_singleton _ _, fun z hz y hy => ?_⟩
        rw [List.mem_singleton.1 hy]
        rcases List.mem_cons.1 (a1.subset hz) with e | e
        · rw [e]; exact a3 j (Nat.le_refl _) (by omega)
        · exact hbef z e
    | false =>
      obtain ⟨a1, a2⟩ := i1 hq
      cases hl : Op.bytesLess x.toList (sat ks j).toList with
      | true =>
        have hxl := (less_iff _ _).1 hl
        have e : insTo ks x (j + 1) = ((insTo ks x j).1 ++ [x] ++ [sat ks j], true) := by rw [insTo, hq, hl]; rfl
        rw [e]
        refine ⟨fun h => by simp at h, fun _ => ⟨?_, ?_, fun s h1 h2 => bl_trans hxl (hlater s (by omega) h2)⟩⟩
        · rw [htake, a1, List.append_assoc, List.singleton_append]; exact List.perm_middle
        · rw [a1, List.append_assoc, List.singleton_append, List.pairwise_append]
          refine ⟨hpj, List.pairwise_cons.2 ⟨fun y hy => by rw [List.mem_singleton.1 hy]; exact hxl, List.pairwise_singleton _ _⟩, fun z hz y hy => ?_⟩
          rcases List.mem_cons.1 hy with e | e
          · rw [e]; exact a2 z hz
          · rw [List.mem_singleton.1 e]; exact hbef z hz
      | false =>
        have hnl : ¬ bl x (sat ks j) := fun h => by rw [(less_iff _ _).2 h] at hl; simp at hl
        have e : insTo ks x (j + 1) = ((insTo ks x j).1 ++ [sat ks j], false) := by rw [insTo, hq, hl]; rfl
        rw [e]
        refine ⟨fun _ => ⟨by rw [htake, a1], fun z hz => ?_⟩, fun h => by simp at h⟩
        rw [htake] at hz
        rcases List.mem_append.1 hz with h | h
        · exact a2 z h
        · rw [List.mem_singleton.1 h]
          rcases bl_total (a := x) (b := sat ks j) (fun e => hx (e ▸ sat_mem (by omega))) with h1 | h1
          · exact (hnl h1).elim
          · exact h1
theorem ins_spec {ks : List ByteArray} {x : ByteArray} (hp : ks.Pairwise bl) (hx : x ∉ ks) : (ins ks x).Perm (x :: ks) ∧ (ins ks x).Pairwise bl := by
  obtain ⟨h1, h2⟩ := insTo_spec hp hx ks.length (Nat.le_refl _)
  rw [List.take_length] at h1 h2
  cases hq : (insTo ks x ks.length).2 with
  | true =>
    obtain ⟨a1, a2, _⟩ := h2 hq
    rw [ins, hq]; exact ⟨a1, a2⟩
  | false =>
    obtain ⟨a1, a2⟩ := h1 hq
    have e : ins ks x = ks ++ [x] := by rw [ins, hq, a1]; rfl
    rw [e]
    refine ⟨List.perm_append_singleton x ks, ?_⟩
    rw [List.pairwise_append]
    exact ⟨hp, List.pairwise_singleton _ _, fun z hz y hy => by rw [List.mem_singleton.1 hy]; exact a2 z hz⟩

/-- The first swap's followers. -/
theorem swap_there {f : List ByteArray} {x y : ByteArray} (hf : inc f) (hx : 0 ≤ idx f x) (hy : y ∉ f) :
    srt (f.set (idx f x).toNat y) = ins (wo f x) y ∧ (srt (f.set (idx f x).toNat y)).Perm (y :: wo f x) := by
  obtain ⟨h1, h2⟩ := idx_pos hx
  have hlt : (idx f x).toNat < f.length := by omega
  have hpw := inc_pw hf
  have hxm : x ∈ f := by rw [← h2]; exact sat_mem hlt
  have p1 := erase_perm hlt
  rw [h2] at p1
  have p2 : (f.eraseIdx (idx f x).toNat).Perm (wo f x) := (p1.symm.trans (wo_perm (pw_nodup hpw) hxm)).cons_inv
  have p3 : (f.set (idx f x).toNat y).Perm (y :: wo f x) := (set_perm y hlt).trans (p2.cons y)
  have hyw : y ∉ wo f x := fun h => hy (wo_mem h)
  obtain ⟨q1, q2⟩ := ins_spec (wo_pw x hpw) hyw
  have hn : (f.set (idx f x).toNat y).Nodup := p3.nodup_iff.2 (q1.nodup_iff.1 (pw_nodup q2))
  have p4 := (srt_perm (f.set (idx f x).toNat y)).trans p3
  exact ⟨pw_unique (p4.trans q1.symm) (srt_pw hn) q2, p4⟩
/-- The second gives the first list back. -/
theorem swap_back {f f' : List ByteArray} {x y : ByteArray} (hf : inc f) (hx : x ∈ f) (hp : f'.Perm (y :: wo f x)) : 0 ≤ idx f' y ∧ srt (f'.set (idx f' y).toNat x) = f := by
  have hpw := inc_pw hf
  have hy : y ∈ f' := hp.symm.subset (by simp)
  have hi := idx_mem hy
  refine ⟨hi, ?_⟩
  obtain ⟨h1, h2⟩ := idx_pos hi
  have hlt : (idx f' y).toNat < f'.length := by omega
  have p1 := erase_perm hlt
  rw [h2] at p1
  have p2 : (f'.eraseIdx (idx f' y).toNat).Perm (wo f x) := (p1.symm.trans hp).cons_inv
  have p3 : (f'.set (idx f' y).toNat x).Perm f := ((set_perm x hlt).trans (p2.cons x)).trans (wo_perm (pw_nodup hpw) hx).symm
  have hn : (f'.set (idx f' y).toNat x).Nodup := p3.nodup_iff.2 (pw_nodup hpw)
  exact pw_unique ((srt_perm _).trans p3) (srt_pw hn) hpw

end Go.Proofs.Qxb6619598a
