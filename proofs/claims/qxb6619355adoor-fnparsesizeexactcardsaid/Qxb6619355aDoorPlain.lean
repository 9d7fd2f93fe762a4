import Derived.Test.Qxb6619355aDoorSize
namespace Go.Proofs.Qxb6619355aDoor

/-! Rows of decimal digits: their value, their order, their text. -/
def dgs (l : List UInt8) : Prop := ∀ c ∈ l, 48 ≤ c.toNat ∧ c.toNat ≤ 57
def val (acc : Nat) (l : List UInt8) : Nat := l.foldl (fun a c => a * 10 + (c.toNat - 48)) acc
theorem val_nil (acc : Nat) : val acc [] = acc := by unfold val; rw [List.foldl_nil]
theorem val_cons (acc : Nat) (c : UInt8) (r : List UInt8) : val acc (c :: r) = val (acc * 10 + (c.toNat - 48)) r := by unfold val; rw [List.foldl_cons]

theorem val_ge (l : List UInt8) (acc : Nat) : acc * 10 ^ l.length ≤ val acc l := by
  induction l generalizing acc with
  | nil => simp [val_nil]
  | cons c r ih =>
    have := ih (acc * 10 + (c.toNat - 48))
    rw [val_cons, List.length_cons, Nat.pow_succ]
    refine Nat.le_trans ?_ this
    rw [Nat.add_mul, Nat.mul_comm (10 ^ r.length) 10, ← Nat.mul_assoc]
    exact Nat.le_add_right _ _
theorem val_lt (l : List UInt8) (acc : Nat) (h : dgs l) : val acc l < (acc + 1) * 10 ^ l.length := by
  induction l generalizing acc with
  | nil => simp [val_nil]
  | cons c r ih =>
    have hc := h c (by simp)
    have := ih (acc * 10 + (c.toNat - 48)) (fun x hx => h x (by simp [hx]))
    rw [val_cons, List.length_cons, Nat.pow_succ]
    refine Nat.lt_of_lt_of_le this ?_
    rw [Nat.mul_comm (10 ^ r.length) 10, ← Nat.mul_assoc]
    exact Nat.mul_le_mul_right _ (by omega)
theorem val_acc (l : List UInt8) (acc : Nat) : acc ≤ val acc l := by
  have := val_ge l acc
  have h1 : 1 ≤ 10 ^ l.length := Nat.pos_of_ne_zero (by simp)
  exact Nat.le_trans (Nat.le_mul_of_pos_right acc h1) this

theorem pu_some (M acc n : Nat) (l : List UInt8) (h : pu M acc l = some n) (ha : acc ≤ M) : dgs l ∧ n = val acc l ∧ n ≤ M := by
  induction l generalizing acc with
  | nil => simp [pu] at h; subst h; exact ⟨fun _ hx => by simp at hx, (val_nil _).symm, ha⟩
  | cons c r ih =>
    rw [pu] at h
    by_cases hd : 48 ≤ c.toNat ∧ c.toNat ≤ 57
    · rw [if_pos hd] at h
      by_cases hm : acc * 10 + (c.toNat - 48) ≤ M
      · rw [if_pos hm] at h
        obtain ⟨h1, h2, h3⟩ := ih _ h hm
        refine ⟨fun x hx => ?_, by rw [val_cons]; exact h2, h3⟩
        rcases List.mem_cons.1 hx with rfl | hx
        · exact hd
        · exact h1 x hx
      · rw [if_neg hm] at h; simp at h
    · rw [if_neg hd] at h; simp at h
theorem pu_of (M acc : Nat) (l : List UInt8) (hd : dgs l) (hm : val acc l ≤ M) : pu M acc l = some (val acc l) := by
  induction l generalizing acc with
  | nil => rw [pu, val_nil]
  | cons c r ih =>
    have hc := hd c (by simp)
    have ha := val_acc r (acc * 10 + (c.toNat - 48))
    rw [val_cons] at hm
    rw [pu, if_pos hc, if_pos (by omega), ih _ (fun x hx => hd x (by simp [hx])) hm, val_cons]

/-- Canonical: not empty, digits, no leading zero. -/
def Canon (l : List UInt8) : Prop := l ≠ [] ∧ dgs l ∧ ¬ (1 < l.length ∧ l.head? = some 48)
theorem size_some {l : List UInt8} {n : Nat} (h : size l = some n) : Canon l ∧ n = val 0 l ∧ n ≤ 9223372036854775807 := by
  unfold size at h
  by_cases hz : 1 < l.length ∧ l.head? = some 48
  · rw [if_pos hz] at h; simp at h
  · rw [if_neg hz] at h
    unfold spell at h
    by_cases he : l = []
    · rw [if_pos he] at h; simp at h
    · rw [if_neg he] at h
      obtain ⟨h1, h2, h3⟩ := pu_some _ _ _ _ h (Nat.zero_le _)
      exact ⟨⟨he, h1, hz⟩, h2, h3⟩
theorem size_of {l : List UInt8} (h : Canon l) (hm : val 0 l ≤ 9223372036854775807) : size l = some (val 0 l) := by
  unfold size spell
  rw [if_neg h.2.2, if_neg h.1]
  exact pu_of _ _ _ h.2.1 hm

/-! Order. -/
def lex : List UInt8 → List UInt8 → Bool
  | x :: xs, y :: ys => if x.toNat = y.toNat then lex xs ys else decide (x.toNat < y.toNat)
  | _, _ => false
def slx (a b : List UInt8) : Bool := if a.length = b.length then lex a b else decide (a.length < b.length)

theorem val_mono (a b : List UInt8) (p q : Nat) (hl : a.length = b.length) (ha : dgs a) (hpq : p < q) : val p a < val q b := by
  have h1 := val_lt a p ha
  have h2 := val_ge b q
  rw [hl] at h1
  exact Nat.lt_of_lt_of_le h1 (Nat.le_trans (Nat.mul_le_mul_right _ hpq) h2)
theorem lex_val (a b : List UInt8) (acc : Nat) (hl : a.length = b.length) (ha : dgs a) (hb : dgs b) : lex a b = decide (val acc a < val acc b) := by
  induction a generalizing b acc with
  | nil =>
    cases b with
    | nil => simp [lex, val_nil]
    | cons y ys => simp at hl
  | cons x xs ih =>
    cases b with
    | nil => simp at hl
    | cons y ys =>
      have hx := ha x (by simp)
      have hy := hb y (by simp)
      have ha' : dgs xs := fun c hc => ha c (by simp [hc])
      have hb' : dgs ys := fun c hc => hb c (by simp [hc])
      have hl' : xs.length = ys.length := by simpa using hl
      rw [lex, val_cons, val_cons]
      by_cases e : x.toNat = y.toNat
      · rw [if_pos e, e]; exact ih ys _ hl' ha' hb'
      · rw [if_neg e]
        by_cases hlt : x.toNat < y.toNat
        · have := val_mono xs ys (acc * 10 + (x.toNat - 48)) (acc * 10 + (y.toNat - 48)) hl' ha' (by omega)
          rw [decide_eq_true hlt, decide_eq_true this]
        · have := val_mono ys xs (acc * 10 + (y.toNat - 48)) (acc * 10 + (x.toNat - 48)) hl'.symm hb' (by omega)
          rw [decide_eq_false hlt, decide_eq_false (by omega)]
theorem canon_low {b : List UInt8} (h : Canon b) (h1 : 1 < b.length) : 10 ^ (b.length - 1) ≤ val 0 b := by
  cases b with
  | nil => simp at h1
  | cons c r =>
    have hc := h.2.1 c (by simp)
    have h48 : c.toNat ≠ 48 := by
      intro e
      exact h.2.2 ⟨h1, by simp only [List.head?_cons]; rw [show c = 48 from UInt8.toNat_inj.1 e]⟩
    have := val_ge r (c.toNat - 48)
    rw [val_cons]
    simp only [List.length_cons, Nat.add_sub_cancel, Nat.zero_mul, Nat.zero_add]
    refine Nat.le_trans ?_ this
    exact Nat.le_mul_of_pos_left _ (by omega)
theorem canon_len {a b : List UInt8} (ha : dgs a) (hb : Canon b) (h0 : a ≠ []) (hl : a.length < b.length) : val 0 a < val 0 b := by
  have h1 := val_lt a 0 ha
  have hp : 0 < a.length := List.length_pos_iff.2 h0
  have h2 := canon_low hb (by omega)
  have h3 : 10 ^ a.length ≤ 10 ^ (b.length - 1) := Nat.pow_le_pow_right (by omega) (by omega)
  omega
theorem slx_val {a b : List UInt8} (ha : Canon a) (hb : Canon b) : slx a b = decide (val 0 a < val 0 b) := by
  unfold slx
  by_cases hl : a.length = b.length
  · rw [if_pos hl]; exact lex_val a b 0 hl ha.2.1 hb.2.1
  · rw [if_neg hl]
    by_cases hlt : a.length < b.length
    · rw [decide_eq_true hlt, decide_eq_true (canon_len ha.2.1 hb ha.1 hlt)]
    · have := canon_len hb.2.1 ha hb.1 (by omega)
      rw [decide_eq_false hlt, decide_eq_false (by omega)]

/-! The text of a number. -/
def dec : Nat → Nat → List UInt8
  | 0, _ => []
  | f + 1, n => if n = 0 then [] else dec f (n / 10) ++ [UInt8.ofNat (48 + n % 10)]
theorem dec_zero (f : Nat) : dec f 0 = [] := by cases f <;> simp [dec]
theorem dec_val (l : List UInt8) (acc f : Nat) (hd : dgs l) (h : acc ≠ 0 ∨ l.head? ≠ some 48) : dec (f + l.length) (val acc l) = dec f acc ++ l := by
  induction l generalizing acc f with
  | nil => simp [val_nil]
  | cons c r ih =>
    have hc := hd c (by simp)
    have hne : acc * 10 + (c.toNat - 48) ≠ 0 := by
      rcases h with h | h
      · omega
      · have : c.toNat ≠ 48 := fun e => h (by simp only [List.head?_cons]; rw [show c = 48 from UInt8.toNat_inj.1 e])
        omega
    have := ih (acc * 10 + (c.toNat - 48)) (f + 1) (fun x hx => hd x (by simp [hx])) (.inl hne)
    rw [val_cons, List.length_cons, show f + (r.length + 1) = f + 1 + r.length from by omega, this, dec, if_neg hne]
    have e1 : (acc * 10 + (c.toNat - 48)) / 10 = acc := by omega
    have e2 : UInt8.ofNat (48 + (acc * 10 + (c.toNat - 48)) % 10) = c := by
      have : 48 + (acc * 10 + (c.toNat - 48)) % 10 = c.toNat := by omega
      rw [this]; simp
    rw [e1, e2]
    simp
def text (n : Nat) : List UInt8 := if n = 0 then [48] else dec 20 n
theorem text_val {l : List UInt8} (h : Canon l) (hl : l.length ≤ 20) : text (val 0 l) = l := by
  unfold text
  by_cases h48 : l.head? = some 48
  · have h1 : l.length = 1 := by
      have hp : 0 < l.length := List.length_pos_iff.2 h.1
      have : ¬ 1 < l.length := fun hh => h.2.2 ⟨hh, h48⟩
      omega
    match l, h1, h48 with
    | [c], _, h48 =>
      simp only [List.head?_cons, Option.some.injEq] at h48
      subst h48
      rw [val_cons, val_nil]
      rfl
  · have hd := dec_val l 0 (20 - l.length) h.2.1 (.inr h48)
    rw [show 20 - l.length + l.length = 20 from by omega, dec_zero, List.nil_append] at hd
    rw [hd]
    rw [if_neg]
    intro e
    rw [e, dec_zero] at hd
    exact h.1 hd.symm
theorem val_inj {a b : List UInt8} (ha : Canon a) (hb : Canon b) (hla : a.length ≤ 20) (hlb : b.length ≤ 20) (h : val 0 a = val 0 b) : a = b := by
  rw [← text_val ha hla, ← text_val hb hlb, h]

/-! The law's own test. -/
def maxText : List UInt8 := [57, 50, 50, 51, 51, 55, 50, 48, 51, 54, 56, 53, 52, 55, 55, 53, 56, 48, 55]
theorem maxText_canon : Canon maxText := ⟨by decide, by unfold dgs; decide, by decide⟩
theorem maxText_val : val 0 maxText = 9223372036854775807 := by decide
theorem canon_max {l : List UInt8} (h : Canon l) (hm : val 0 l ≤ 9223372036854775807) : l.length ≤ 19 := by
  refine Nat.le_of_not_lt fun hl => ?_
  have := canon_len (a := maxText) (b := l) maxText_canon.2.1 h maxText_canon.1 (by show 19 < _; exact hl)
  rw [maxText_val] at this
  omega
theorem size_iff {l : List UInt8} (h : Canon l) : (size l).isSome = !slx maxText l := by
  rw [slx_val maxText_canon h, maxText_val]
  by_cases hm : val 0 l ≤ 9223372036854775807
  · rw [size_of h hm, decide_eq_false (by omega)]; rfl
  · have : size l = none := by
      cases hs : size l with
      | none => rfl
      | some n =>
        obtain ⟨_, h1, h2⟩ := size_some hs
        omega
    rw [this, decide_eq_true (by omega)]; rfl
theorem size_short {l : List UInt8} (h : Canon l) (hl : l.length < 19) : (size l).isSome = true := by
  rw [size_iff h]
  unfold slx
  have e : maxText.length = 19 := rfl
  rw [if_neg (by omega), decide_eq_false (by omega)]
  rfl
theorem size_not {l : List UInt8} (h : ¬ Canon l) : size l = none := by
  cases hs : size l with
  | none => rfl
  | some n => exact absurd (size_some hs).1 h
theorem size_long {l : List UInt8} (h : 19 < l.length) : size l = none := by
  cases hs : size l with
  | none => rfl
  | some n =>
    obtain ⟨h1, h2, h3⟩ := size_some hs
    have := canon_max h1 (by omega)
    omega

end Go.Proofs.Qxb6619355aDoor
