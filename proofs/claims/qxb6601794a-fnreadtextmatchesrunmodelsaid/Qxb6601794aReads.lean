/-
  The plain side of 'FnAppendIntReadsBack': the text of x reads back as x. No Go.
-/
import Derived.Test.Qxb6601794aPlain
namespace Go.Proofs.Qxb6601794a

/-- The byte at j (0 where there is none): a name of its own, which a walk does not look into. -/
def at' (l : List Int) (j : Nat) : Int := l.getD j 0

/-- One step of the reader: it gathers the number's negative. -/
def rd (a c : Int) : Int := a * 10 - (c - 48)

theorem digs_digit (f : Nat) : ∀ y : Int, 0 ≤ y → ∀ c ∈ digs f y, 48 ≤ c ∧ c ≤ 57 := by
  induction f with
  | zero => intro y _ c hc; simp [digs] at hc
  | succ f ih =>
    intro y hy c hc
    have h1 := tmod_bd y
    have h2 : 0 ≤ y.tmod 10 := Int.tmod_nonneg 10 hy
    have h3 : 0 ≤ y.tdiv 10 := Int.tdiv_nonneg hy (by decide)
    simp only [digs, List.mem_append, List.mem_singleton] at hc
    rcases hc with hc | rfl
    · split at hc
      · simp at hc
      · exact ih _ h3 c hc
    · omega

theorem digs_read (f : Nat) : ∀ y : Int, 0 ≤ y → y.natAbs < 10 ^ f → (digs f y).foldl rd 0 = -y := by
  induction f with
  | zero => intro y _ h; simp at h; subst h; simp [digs]
  | succ f ih =>
    intro y hy hlt
    have h3 : 0 ≤ y.tdiv 10 := Int.tdiv_nonneg hy (by decide)
    have hd := natAbs_tdiv10 y
    have he := Int.mul_tdiv_add_tmod y 10
    simp only [digs, List.foldl_append, List.foldl_cons, List.foldl_nil]
    rw [Nat.pow_succ] at hlt
    split
    · rename_i h0
      simp only [List.foldl_nil, rd]
      rw [h0] at he
      omega
    · rw [ih _ h3 (by omega)]
      simp only [rd]
      omega

theorem getD_get {l : List Int} {k : Nat} (h : k < l.length) : l.getD k 0 = l[k] := by simp [List.getD, h]

theorem rd_zeros (p : Nat) : (List.replicate p (48 : Int)).foldl rd 0 = 0 := by
  induction p with
  | zero => rfl
  | succ p ih => rw [List.replicate_succ, List.foldl_cons]; exact ih

/-- What is gathered only falls. -/
theorem rd_falls (l : List Int) : ∀ a : Int, a ≤ 0 → (∀ c ∈ l, 48 ≤ c ∧ c ≤ 57) → l.foldl rd a ≤ a := by
  induction l with
  | nil => intro a _ _; exact Int.le_refl _
  | cons c l ih =>
    intro a ha hc
    have h1 := hc c (by simp)
    have h2 := ih (rd a c) (by simp only [rd]; omega) (fun d hd => hc d (by simp [hd]))
    simp only [List.foldl_cons]
    simp only [rd] at h2 ⊢
    omega

/-- What the reader reads: the text behind its sign, its blanks dropped. -/
def body (x width pad : Int) : List Int := ((text x width pad).drop (sgn x).length).dropWhile (· == 32)

theorem drop_sgn (x width pad : Int) : (text x width pad).drop (sgn x).length = List.replicate (width.toNat - (digs 19 (mag x)).length) pad ++ digs 19 (mag x) := by
  unfold text
  rw [List.append_assoc, List.drop_left]

theorem mag_nonneg {x : Int} (h0 : -9223372036854775808 < x) : 0 ≤ mag x := by
  unfold mag; split <;> (try split) <;> omega

theorem dropWhile_digits {l : List Int} (h : ∀ c ∈ l, 48 ≤ c ∧ c ≤ 57) : l.dropWhile (· == 32) = l := by
  cases l with
  | nil => rfl
  | cons c l =>
    have := h c (by simp)
    have hne : (c == 32) = false := by simp; omega
    simp [hne]

theorem dropWhile_blanks (p : Nat) (l : List Int) : (List.replicate p (32 : Int) ++ l).dropWhile (· == 32) = l.dropWhile (· == 32) := by
  induction p with
  | zero => rfl
  | succ p ih => rw [List.replicate_succ, List.cons_append, List.dropWhile_cons]; simp only [beq_self_eq_true, if_true]; exact ih

theorem mag_lt (x : Int) (h0 : -9223372036854775808 ≤ x) (h1 : x ≤ 9223372036854775807) : (mag x).natAbs < 10 ^ 19 := by
  have := mag_bd x h0 h1
  have : (10 : Nat) ^ 19 = 10000000000000000000 := by decide
  omega

theorem body_reads (x width pad : Int) (h0 : -9223372036854775808 < x) (h1 : x ≤ 9223372036854775807) (hp : pad = 48 ∨ pad = 32) :
    body x width pad ≠ [] ∧ (∀ c ∈ body x width pad, 48 ≤ c ∧ c ≤ 57) ∧ (body x width pad).foldl rd 0 = -(mag x) := by
  have hm := mag_nonneg h0
  have hd := digs_digit 19 (mag x) hm
  have hr := digs_read 19 (mag x) hm (mag_lt x (by omega) h1)
  have hpos := digs_pos 18 (mag x)
  have hne : digs 19 (mag x) ≠ [] := by intro e; rw [e] at hpos; simp at hpos
  unfold body
  rw [drop_sgn]
  rcases hp with rfl | rfl
  · have hall : ∀ c ∈ List.replicate (width.toNat - (digs 19 (mag x)).length) (48 : Int) ++ digs 19 (mag x), 48 ≤ c ∧ c ≤ 57 := by
      intro c hc
      rcases List.mem_append.1 hc with hc | hc
      · rw [List.eq_of_mem_replicate hc]; omega
      · exact hd c hc
    rw [dropWhile_digits hall]
    refine ⟨by simp [hne], hall, ?_⟩
    rw [List.foldl_append, rd_zeros, hr]
  · rw [dropWhile_blanks, dropWhile_digits hd]
    exact ⟨hne, hd, hr⟩

theorem text_pos (x width pad : Int) : 0 < (text x width pad).length := by
  have : 0 < (digs 19 (mag x)).length := digs_pos 18 (mag x)
  unfold text
  simp only [List.length_append]
  omega

theorem text_le (x width pad : Int) (hw : width ≤ 65536) : (text x width pad).length ≤ 65556 := by
  have := digs_length_le 19 (mag x)
  have := sgn_le x
  unfold text
  simp only [List.length_append, List.length_replicate]
  omega

/-- Its first byte is the sign's, if and only if there is one. -/
theorem text_head (x width pad : Int) (h0 : -9223372036854775808 < x) (hp : pad = 48 ∨ pad = 32) : (at' (text x width pad) 0 == 45) = decide (x < 0) := by
  unfold at'
  by_cases hx : x < 0
  · simp [text, sgn, hx]
  · have hm := mag_nonneg h0
    have hd := digs_digit 19 (mag x) hm
    have hpos := text_pos x width pad
    have hmem : (text x width pad).getD 0 0 ∈ text x width pad := by
      rw [getD_get hpos]
      exact List.getElem_mem hpos
    generalize (text x width pad).getD 0 0 = c at hmem
    have hc : c ≠ 45 := by
      unfold text at hmem
      simp only [sgn, hx, if_false, List.nil_append] at hmem
      rcases List.mem_append.1 hmem with hc | hc
      · rw [List.eq_of_mem_replicate hc]; rcases hp with rfl | rfl <;> decide
      · have := hd c hc; omega
    simp [hx, hc]

theorem drop_cons_getD {l : List Int} {k : Nat} (h : k < l.length) : l.drop k = at' l k :: l.drop (k + 1) := by
  unfold at'
  rw [List.drop_eq_getElem_cons h, getD_get h]

end Go.Proofs.Qxb6601794a
