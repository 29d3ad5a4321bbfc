/-
  The plain side of 'FnAppendIntPaddedTextsSortAsNumbers'. No Go.
-/
import Derived.Test.Qxb6601794aReads
namespace Go.Proofs.Qxb6601794a

/-- zzCompareBytes at two lists of one length. -/
def cmp : List Int → List Int → Int
  | a :: A, b :: B => if a < b then -1 else if b < a then 1 else cmp A B
  | _, _ => 0

def sg (a b : Int) : Int := if a < b then -1 else if b < a then 1 else 0

theorem cmp_self (A : List Int) : cmp A A = 0 := by
  induction A with
  | nil => rfl
  | cons a A ih => simp [cmp, ih]

theorem cmp_neg (A : List Int) : ∀ B, A.length = B.length → cmp B A = - cmp A B := by
  induction A with
  | nil => intro B h; cases B <;> simp_all [cmp]
  | cons a A ih =>
    intro B h
    cases B with
    | nil => simp at h
    | cons b B =>
      have := ih B (by simpa using h)
      simp only [cmp]
      split <;> split <;> (try split) <;> omega

theorem cmp_append (P : List Int) : ∀ Q X Y, P.length = Q.length → cmp (P ++ X) (Q ++ Y) = if cmp P Q = 0 then cmp X Y else cmp P Q := by
  induction P with
  | nil => intro Q X Y h; cases Q <;> simp_all [cmp]
  | cons a P ih =>
    intro Q X Y h
    cases Q with
    | nil => simp at h
    | cons b Q =>
      have := ih Q X Y (by simpa using h)
      simp only [List.cons_append, cmp]
      split
      · simp
      · split
        · simp
        · exact this

theorem tdiv_pos {y : Int} (hy : 0 ≤ y) : y.tdiv 10 = y / 10 := Int.tdiv_eq_ediv_of_nonneg hy
theorem tmod_pos {y : Int} (hy : 0 ≤ y) : y.tmod 10 = y % 10 := Int.tmod_eq_emod_of_nonneg hy

theorem digs_pos_of (f : Nat) (y : Int) (hy : 0 < y) (h : y.natAbs < 10 ^ f) : 0 < (digs f y).length := by
  cases f with
  | zero => simp at h; omega
  | succ f => exact digs_pos f y

/-- At one number of digits: the texts compare as the numbers do. -/
theorem cmp_digs (f : Nat) : ∀ a b : Int, 0 ≤ a → 0 ≤ b → a.natAbs < 10 ^ f → b.natAbs < 10 ^ f → (digs f a).length = (digs f b).length → cmp (digs f a) (digs f b) = sg a b := by
  induction f with
  | zero => intro a b ha hb ha1 hb1 _; simp at ha1 hb1; subst ha1; subst hb1; rfl
  | succ f ih =>
    intro a b ha hb ha1 hb1 hl
    rw [Nat.pow_succ] at ha1 hb1
    simp only [digs, tdiv_pos ha, tdiv_pos hb, tmod_pos ha, tmod_pos hb, List.length_append, List.length_singleton] at hl ⊢
    have ha2 : (a / 10).natAbs < 10 ^ f := by omega
    have hb2 : (b / 10).natAbs < 10 ^ f := by omega
    by_cases ha0 : a / 10 = 0 <;> by_cases hb0 : b / 10 = 0
    · simp only [ha0, hb0, if_true, List.nil_append, cmp, sg]
      split <;> split <;> (try split) <;> omega
    · have := digs_pos_of f (b / 10) (by omega) hb2
      simp [ha0, hb0] at hl
      rw [hl] at this
      simp at this
    · have := digs_pos_of f (a / 10) (by omega) ha2
      simp [ha0, hb0] at hl
      rw [hl] at this
      simp at this
    · rw [if_neg ha0, if_neg hb0] at hl ⊢
      rw [cmp_append _ _ _ _ (by omega), ih (a / 10) (b / 10) (by omega) (by omega) ha2 hb2 (by omega)]
      simp only [cmp, sg]
      split <;> split <;> (try split) <;> (try split) <;> (try split) <;> (try split) <;> omega

theorem digs_len_mono (f : Nat) : ∀ a b : Int, 0 ≤ b → b ≤ a → (digs f b).length ≤ (digs f a).length := by
  induction f with
  | zero => intro a b _ _; exact Nat.le_refl _
  | succ f ih =>
    intro a b hb hab
    have ha : 0 ≤ a := by omega
    have := ih (a / 10) (b / 10) (by omega) (by omega)
    simp only [digs, tdiv_pos ha, tdiv_pos hb, List.length_append, List.length_singleton]
    split
    · simp
    · rw [if_neg (by omega)]; omega

theorem digs_head (f : Nat) : ∀ y : Int, 0 < y → y.natAbs < 10 ^ f → ∃ d l, digs f y = d :: l ∧ 49 ≤ d := by
  induction f with
  | zero => intro y hy h; simp at h; omega
  | succ f ih =>
    intro y hy h
    have hy0 : 0 ≤ y := by omega
    rw [Nat.pow_succ] at h
    simp only [digs, tdiv_pos hy0, tmod_pos hy0]
    by_cases h0 : y / 10 = 0
    · exact ⟨48 + y % 10, [], by simp [h0], by omega⟩
    · obtain ⟨d, l, e, hd⟩ := ih (y / 10) (by omega) (by omega)
      exact ⟨d, l ++ [48 + y % 10], by simp [h0, e], hd⟩

theorem text_nonneg {x : Int} (width pad : Int) (hx : 0 ≤ x) : text x width pad = List.replicate (width.toNat - (digs 19 x).length) pad ++ digs 19 x := by
  have h1 : ¬ x < 0 := by omega
  simp [text, sgn, mag, h1]

/-- The shorter number, padded, is the less. -/
theorem cmp_short {a b : Int} (width pad : Int) (ha : 0 ≤ a) (hb : 0 ≤ b) (hb1 : b ≤ 9223372036854775807) (hp : pad ≤ 48)
    (hlt : (digs 19 a).length < (digs 19 b).length) (hl : (text a width pad).length = (text b width pad).length) : cmp (text a width pad) (text b width pad) = -1 := by
  have hbp : 0 < b := by
    refine Int.lt_of_not_ge fun h => ?_
    have := digs_len_mono 19 a b hb (by omega)
    omega
  have h19 : (10 : Nat) ^ 19 = 10000000000000000000 := by decide
  obtain ⟨d, l, e, hd⟩ := digs_head 19 b hbp (by omega)
  rw [text_nonneg width pad ha, text_nonneg width pad hb] at hl ⊢
  simp only [List.length_append, List.length_replicate] at hl
  obtain ⟨q, hq⟩ : ∃ q, width.toNat - (digs 19 a).length = (width.toNat - (digs 19 b).length) + (q + 1) := ⟨width.toNat - (digs 19 a).length - (width.toNat - (digs 19 b).length) - 1, by omega⟩
  rw [hq, ← List.replicate_append_replicate, List.append_assoc, cmp_append _ _ _ _ rfl, cmp_self, if_pos rfl, List.replicate_succ, e]
  simp only [List.cons_append, cmp]
  rw [if_pos (by omega)]

theorem cmp_text {a b : Int} (width pad : Int) (ha : 0 ≤ a) (hb : 0 ≤ b) (ha1 : a ≤ 9223372036854775807) (hb1 : b ≤ 9223372036854775807) (hp : pad ≤ 48)
    (hl : (text a width pad).length = (text b width pad).length) : cmp (text a width pad) (text b width pad) = sg a b := by
  have h19 : (10 : Nat) ^ 19 = 10000000000000000000 := by decide
  rcases Nat.lt_trichotomy (digs 19 a).length (digs 19 b).length with h | h | h
  · rw [cmp_short width pad ha hb hb1 hp h hl]
    have : a < b := by
      refine Int.lt_of_not_ge fun h2 => ?_
      have := digs_len_mono 19 a b hb h2
      omega
    simp [sg, this]
  · rw [text_nonneg width pad ha, text_nonneg width pad hb, h, cmp_append _ _ _ _ rfl, cmp_self, if_pos rfl]
    exact cmp_digs 19 a b ha hb (by omega) (by omega) h
  · rw [cmp_neg _ _ hl.symm, cmp_short width pad hb ha ha1 hp h hl.symm]
    have : b < a := by
      refine Int.lt_of_not_ge fun h2 => ?_
      have := digs_len_mono 19 b a ha h2
      omega
    have h2 : ¬ a < b := by omega
    simp [sg, this, h2]

/-- One width, one length. -/
theorem text_len_of_width {a b : Int} (width pad : Int) (ha : 0 ≤ a) (hb : 0 ≤ b)
    (h : (if ((digs 19 a).length : Int) < width then width else ((digs 19 a).length : Int)) = (if ((digs 19 b).length : Int) < width then width else ((digs 19 b).length : Int))) :
    (text a width pad).length = (text b width pad).length := by
  rw [text_nonneg width pad ha, text_nonneg width pad hb]
  simp only [List.length_append, List.length_replicate]
  split at h <;> split at h <;> omega

end Go.Proofs.Qxb6601794a
