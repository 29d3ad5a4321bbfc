/-
  The plain side of zzDecimal: digits from the top. No Go.
-/
import Derived.Test.Qxb6601794aReads
namespace Go.Proofs.Qxb6601794a

/-- k decimal digits of u, from the top. -/
def dec : Nat → Nat → List Int
  | 0, _ => []
  | k + 1, u => (48 + (u / 10 ^ k : Nat)) :: dec k (u % 10 ^ k)

theorem dec_length (k : Nat) : ∀ u, (dec k u).length = k := by
  induction k with
  | zero => intro u; rfl
  | succ k ih => intro u; simp [dec, ih]

theorem dec_snoc (k : Nat) : ∀ u, u < 10 ^ (k + 1) → dec (k + 1) u = dec k (u / 10) ++ [48 + ((u % 10 : Nat) : Int)] := by
  induction k with
  | zero =>
    intro u hu
    have : u % 10 = u := Nat.mod_eq_of_lt (by simpa using hu)
    simp [dec, this]
  | succ k ih =>
    intro u hu
    have h1 : u / 10 / 10 ^ k = u / 10 ^ (k + 1) := by rw [Nat.div_div_eq_div_mul, Nat.pow_succ, Nat.mul_comm]
    have h2 : u % 10 ^ (k + 1) / 10 = u / 10 % 10 ^ k := by rw [Nat.pow_succ, Nat.mul_comm, Nat.mod_mul_right_div_self]
    have h3 : u % 10 ^ (k + 1) % 10 = u % 10 := Nat.mod_mod_of_dvd _ ⟨10 ^ k, by rw [Nat.pow_succ, Nat.mul_comm]⟩
    have h4 := ih (u % 10 ^ (k + 1)) (Nat.mod_lt _ (Nat.pow_pos (by decide)))
    rw [dec, h4, dec, h1, h2, h3]
    rfl

/-- K is the number of u's digits. -/
def Len (K u : Nat) : Prop := 1 ≤ K ∧ u < 10 ^ K ∧ (K = 1 ∨ 10 ^ (K - 1) ≤ u)

theorem digs_dec (K : Nat) : ∀ f u, K ≤ f → Len K u → digs f (u : Int) = dec K u := by
  induction K with
  | zero => intro f u _ h; exact absurd h.1 (by decide)
  | succ K ih =>
    intro f u hf h
    obtain ⟨g, rfl⟩ : ∃ g, f = g + 1 := ⟨f - 1, by omega⟩
    have ed : (u : Int).tdiv 10 = ((u / 10 : Nat) : Int) := by
      rw [Int.tdiv_eq_ediv_of_nonneg (by omega)]; omega
    have em : (u : Int).tmod 10 = ((u % 10 : Nat) : Int) := by
      rw [Int.tmod_eq_emod_of_nonneg (by omega)]; omega
    rw [dec_snoc K u h.2.1, digs, ed, em]
    congr 1
    by_cases hK : K = 0
    · subst hK
      have h1 := h.2.1
      have : u / 10 = 0 := by simp at h1; omega
      simp [this, dec]
    · have h2 : 10 ^ K ≤ u := by
        rcases h.2.2 with h | h
        · omega
        · simpa using h
      obtain ⟨j, rfl⟩ : ∃ j, K = j + 1 := ⟨K - 1, by omega⟩
      have h3 : 10 ^ j ≤ u / 10 := by rw [Nat.pow_succ] at h2; omega
      have h5 : 0 < 10 ^ j := Nat.pow_pos (by decide)
      have hne : ¬ ((u / 10 : Nat) : Int) = 0 := by omega
      rw [if_neg hne]
      refine ih g (u / 10) (by omega) ⟨by omega, ?_, .inr (by simpa using h3)⟩
      have := h.2.1
      rw [Nat.pow_succ] at this
      omega

/-- A number below 2^63 + 1 has at most 19 digits. -/
theorem len_le {K u : Nat} (h : Len K u) (hu : u ≤ 9223372036854775808) : K ≤ 19 := by
  rcases h.2.2 with h1 | h1
  · omega
  · refine Nat.le_of_not_lt fun hlt => ?_
    have h2 : 10 ^ 19 ≤ 10 ^ (K - 1) := Nat.pow_le_pow_right (by decide) (by omega)
    have h3 : (10 : Nat) ^ 19 = 10000000000000000000 := by decide
    omega

/-- zzDecimal's second loop: k digits are to come. -/
def Rest (k r U : Nat) (out : List Int) : Prop := r < 10 ^ k ∧ digs 19 (U : Int) = out ++ dec k r

theorem rest_start {K U : Nat} (h : Len K U) (hU : U ≤ 9223372036854775808) : Rest K U U [] :=
  ⟨h.2.1, by rw [digs_dec K 19 U (len_le h hU) h]; rfl⟩

theorem rest_step {k r U : Nat} {out : List Int} (h : Rest (k + 1) r U out) : Rest k (r % 10 ^ k) U (out ++ [48 + ((r / 10 ^ k : Nat) : Int)]) ∧ r / 10 ^ k ≤ 9 := by
  have hp : 0 < 10 ^ k := Nat.pow_pos (by decide)
  refine ⟨⟨Nat.mod_lt _ hp, ?_⟩, ?_⟩
  · rw [h.2, dec]; simp
  · have := h.1
    rw [Nat.pow_succ] at this
    have : r / 10 ^ k < 10 := Nat.div_lt_of_lt_mul this
    omega

theorem rest_end {r U : Nat} {out : List Int} (h : Rest 0 r U out) : digs 19 (U : Int) = out := by
  have := h.2
  simpa [dec] using this

end Go.Proofs.Qxb6601794a
