/-
  The plain side of 'FnAppendIntMatchesDecimalModel'. No Go.
-/
import Derived.Test.Qxb6601794aDec
namespace Go.Proofs.Qxb6601794a

theorem digs_neg (f : Nat) : ∀ y : Int, digs f (-y) = (digs f y).map (96 - ·) := by
  induction f with
  | zero => intro y; rfl
  | succ f ih =>
    intro y
    have h := ih (y.tdiv 10)
    simp only [digs, Int.neg_tdiv, Int.neg_tmod, List.map_append, List.map_cons, List.map_nil]
    congr 1
    · by_cases h0 : y.tdiv 10 = 0
      · simp [h0]
      · have h1 : ¬ -y.tdiv 10 = 0 := by omega
        rw [if_neg h0, if_neg h1, h]
    · congr 1
      omega

/-- |x|, as zzDecimal is handed it. -/
def absN (x : Int) : Nat := x.natAbs

theorem digs_mag (x : Int) (_h0 : -9223372036854775808 ≤ x) : digs 19 (mag x) = if x = -9223372036854775808 then (digs 19 (absN x : Int)).map (96 - ·) else digs 19 (absN x : Int) := by
  unfold mag absN
  by_cases hm : x = -9223372036854775808
  · subst hm
    rw [if_pos (by decide), if_pos rfl, if_pos rfl, ← digs_neg]
    rfl
  · rw [if_neg hm, if_neg hm]
    congr 1
    split <;> omega

/-- The digits, those up to k turned. -/
def mix (D : List Int) (k : Nat) : List Int := (D.take k).map (96 - ·) ++ D.drop k

theorem mix_zero (D : List Int) : mix D 0 = D := by simp [mix]
theorem mix_end (D : List Int) : mix D D.length = D.map (96 - ·) := by simp [mix]
theorem mix_length (D : List Int) (k : Nat) : (mix D k).length = D.length := by simp [mix]; omega
theorem mix_at (D : List Int) (k : Nat) (hk : k < D.length) : at' (mix D k) k = at' D k := by
  unfold at' mix
  have h1 : ((D.take k).map (96 - ·)).length = k := by simp; omega
  simp only [List.getD]
  rw [List.getElem?_append_right (by omega), h1, Nat.sub_self, List.getElem?_drop]
  simp
theorem mix_set (D : List Int) (k : Nat) (hk : k < D.length) : (mix D k).set k (96 - at' D k) = mix D (k + 1) := by
  unfold mix
  have h1 : ((D.take k).map (96 - ·)).length = k := by simp; omega
  rw [List.set_append, if_neg (by omega), h1, Nat.sub_self, drop_cons_getD hk, List.set_cons_zero, List.take_succ_eq_append_getElem hk]
  have : at' D k = D[k] := getD_get hk
  rw [this, List.map_append, List.append_assoc]
  rfl

theorem at_append_left {A B : List Int} {k : Nat} (h : k < A.length) : at' (A ++ B) k = at' A k := by
  unfold at'
  simp only [List.getD]
  rw [List.getElem?_append_left h]
theorem at_append_right {A B : List Int} {k : Nat} : at' (A ++ B) (A.length + k) = at' B k := by
  unfold at'
  simp only [List.getD]
  rw [List.getElem?_append_right (by omega)]
  simp
theorem at_replicate {n k : Nat} {c : Int} (h : k < n) : at' (List.replicate n c) k = c := by
  unfold at'
  simp [h]

/-- The parts of the text, cell by cell: the bytes ahead, the sign, the padding, the digits. -/
theorem got_head (xs : List Int) (x width pad : Int) {k : Nat} (h : k < xs.length) : at' (xs ++ text x width pad) k = at' xs k := at_append_left h
theorem got_sign (xs : List Int) (x width pad : Int) (h : x < 0) : at' (xs ++ text x width pad) xs.length = 45 := by
  have := at_append_right (A := xs) (B := text x width pad) (k := 0)
  rw [Nat.add_zero] at this
  rw [this]
  simp [text, sgn, h, at']
theorem got_pad (xs : List Int) (x width pad : Int) {k : Nat} (h : k < width.toNat - (digs 19 (mag x)).length) : at' (xs ++ text x width pad) (xs.length + (sgn x).length + k) = pad := by
  rw [Nat.add_assoc, at_append_right]
  unfold text
  rw [List.append_assoc, at_append_right, at_append_left (by simpa using h), at_replicate h]
theorem got_dig (xs : List Int) (x width pad : Int) {k : Nat} : at' (xs ++ text x width pad) (xs.length + (sgn x).length + (width.toNat - (digs 19 (mag x)).length) + k) = at' (digs 19 (mag x)) k := by
  have e : xs.length + (sgn x).length + (width.toNat - (digs 19 (mag x)).length) + k = xs.length + ((sgn x).length + ((width.toNat - (digs 19 (mag x)).length) + k)) := by omega
  rw [e, at_append_right]
  unfold text
  rw [List.append_assoc, at_append_right]
  have h := at_append_right (A := List.replicate (width.toNat - (digs 19 (mag x)).length) pad) (B := digs 19 (mag x)) (k := k)
  rw [List.length_replicate] at h
  exact h
theorem text_len (x width pad : Int) : (text x width pad).length = (sgn x).length + (width.toNat - (digs 19 (mag x)).length) + (digs 19 (mag x)).length := by
  unfold text
  simp only [List.length_append, List.length_replicate]

end Go.Proofs.Qxb6601794a
