/-
  The plain side of appendInt: lists of integers, no Go.
-/
namespace Go.Proofs.Qxb6601794a

/-- The bytes that appendInt's first loop writes for y, the first digit first (f: fuel, at least the number of digits). -/
def digs : Nat → Int → List Int
  | 0, _ => []
  | f + 1, y => (if y.tdiv 10 = 0 then [] else digs f (y.tdiv 10)) ++ [48 + y.tmod 10]

/-- What stands in 'v' behind appendInt's first test. -/
def mag (x : Int) : Int := if x < 0 then (if x = -9223372036854775808 then x else -x) else x
def sgn (x : Int) : List Int := if x < 0 then [45] else []
/-- The text that appendInt appends. -/
def text (x width pad : Int) : List Int := sgn x ++ List.replicate (width.toNat - (digs 19 (mag x)).length) pad ++ digs 19 (mag x)

theorem digs_length_le (f : Nat) : ∀ y, (digs f y).length ≤ f := by
  induction f with
  | zero => intro y; simp [digs]
  | succ f ih =>
    intro y
    have := ih (y.tdiv 10)
    simp only [digs]
    split <;> simp <;> omega

theorem digs_pos (f : Nat) (y : Int) : 0 < (digs (f + 1) y).length := by
  simp [digs]

theorem sgn_le (x : Int) : (sgn x).length ≤ 1 := by unfold sgn; split <;> simp

theorem mag_bd (x : Int) (h0 : -9223372036854775808 ≤ x) (h1 : x ≤ 9223372036854775807) : -9223372036854775808 ≤ mag x ∧ mag x ≤ 9223372036854775807 := by
  unfold mag; split <;> (try split) <;> omega

theorem tmod_bd (q : Int) : -9 ≤ q.tmod 10 ∧ q.tmod 10 ≤ 9 := by
  have h1 := Int.tmod_lt_of_pos q (show (0 : Int) < 10 by decide)
  have h2 := Int.tmod_lt_of_pos (-q) (show (0 : Int) < 10 by decide)
  rw [Int.neg_tmod] at h2
  omega

theorem natAbs_tdiv10 (q : Int) : (q.tdiv 10).natAbs = q.natAbs / 10 := by
  rw [Int.natAbs_tdiv]; rfl

theorem tdiv_bd (q : Int) (h0 : -9223372036854775808 ≤ q) (h1 : q ≤ 9223372036854775807) : -9223372036854775808 ≤ q.tdiv 10 ∧ q.tdiv 10 ≤ 9223372036854775807 := by
  have := natAbs_tdiv10 q
  omega

/-- The first loop's state: k digits are written, q is left. -/
def Fits (k : Nat) (q m : Int) (acc : List Int) : Prop := q.natAbs < 10 ^ (19 - k) ∧ digs 19 m = digs (19 - k) q ++ acc

theorem fits_start (m : Int) (h0 : -9223372036854775808 ≤ m) (h1 : m ≤ 9223372036854775807) : Fits 0 m m [] := by
  refine ⟨?_, by simp⟩
  have : (10 : Nat) ^ (19 - 0) = 10000000000000000000 := by decide
  rw [this]
  omega

theorem fits_step {k : Nat} {q m : Int} {acc : List Int} (hk : k ≤ 18) (h : Fits k q m acc) (hq : (q.tdiv 10 == 0) = false) : k + 1 ≤ 18 ∧ Fits (k + 1) (q.tdiv 10) m ((48 + q.tmod 10) :: acc) := by
  have hne : q.tdiv 10 ≠ 0 := by simpa using hq
  have hd := natAbs_tdiv10 q
  have hlt : k ≠ 18 := by
    rintro rfl
    have := h.1
    simp at this
    omega
  obtain ⟨f, hf⟩ : ∃ f, 19 - k = f + 1 := ⟨18 - k, by omega⟩
  have hf' : 19 - (k + 1) = f := by omega
  refine ⟨by omega, ?_, ?_⟩
  · have := h.1
    rw [hf, Nat.pow_succ] at this
    rw [hf', hd]
    omega
  · rw [h.2, hf, hf']
    simp [digs, hne]

theorem fits_stop {k : Nat} {q m : Int} {acc : List Int} (hk : k ≤ 18) (h : Fits k q m acc) (hq : (q.tdiv 10 == 0) = true) : digs 19 m = (48 + q.tmod 10) :: acc := by
  have he : q.tdiv 10 = 0 := by simpa using hq
  obtain ⟨f, hf⟩ : ∃ f, 19 - k = f + 1 := ⟨18 - k, by omega⟩
  rw [h.2, hf]
  simp [digs, he]

end Go.Proofs.Qxb6601794a
