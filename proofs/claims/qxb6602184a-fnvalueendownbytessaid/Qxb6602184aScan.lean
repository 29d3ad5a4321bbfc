/-
  The plain side of valueEnd: what it scans over is what the recogniser reads. No Go.
-/
import Derived.Test.Qxb6602184aJson
namespace Go.Proofs.Qxb6602184a

/-- closingQuote behind the opening quote: where the closing one stands. (true: behind a backslash.) -/
def cq : Bool → List Int → Option Nat
  | _, [] => none
  | false, c :: t => if c = 34 then some 0 else if c = 92 then (cq true t).map (· + 1) else (cq false t).map (· + 1)
  | true, _ :: t => (cq false t).map (· + 1)

/-- valueEnd's scan over brackets at depth D: how many bytes, the last closing bracket included. State 0: plain; 1: in a string; 2: behind a backslash there. -/
def sm : Nat → Nat → List Int → Option Nat
  | _, _, [] => none
  | 0, D, c :: t =>
    if c = 34 then (sm 1 D t).map (· + 1)
    else if c = 123 ∨ c = 91 then (sm 0 (D + 1) t).map (· + 1)
    else if c = 125 ∨ c = 93 then (if D = 1 then some 1 else (sm 0 (D - 1) t).map (· + 1))
    else (sm 0 D t).map (· + 1)
  | 1, D, c :: t => if c = 34 then (sm 0 D t).map (· + 1) else if c = 92 then (sm 2 D t).map (· + 1) else (sm 1 D t).map (· + 1)
  | _ + 2, D, _ :: t => (sm 1 D t).map (· + 1)

theorem map_map (o : Option Nat) (a b : Nat) : (o.map (· + a)).map (· + b) = o.map (· + (a + b)) := by
  cases o with
  | none => rfl
  | some n => simp; omega

/-- A string that the recogniser reads, closingQuote reads to the same quote. -/
theorem hex_plain {c : Int} (h : hex c = true) : ¬ c = 34 ∧ ¬ c = 92 := by
  simp [hex] at h
  omega

theorem cq_of_ss (l : List Int) : ∀ q n, ss q l = some n → cq (q == 1) l = some (n - 1) ∧ 1 ≤ n := by
  induction l with
  | nil => intro q n h; simp [ss] at h
  | cons c t ih =>
    intro q n h
    match q, h with
    | 0, h =>
      simp only [ss] at h
      split at h
      · cases h; simp_all [cq]
      · rename_i h34
        split at h
        · cases h
        · split at h
          · rename_i h92
            obtain ⟨m, hm, rfl⟩ := map_some h
            have := ih 1 m hm
            refine ⟨?_, by omega⟩
            simp only [show ((0 : Nat) == 1) = false from rfl, cq, if_neg h34, if_pos h92]
            rw [show ((1 : Nat) == 1) = true from rfl] at this
            rw [this.1]
            simp; omega
          · rename_i h92
            obtain ⟨m, hm, rfl⟩ := map_some h
            have := ih 0 m hm
            refine ⟨?_, by omega⟩
            simp only [show ((0 : Nat) == 1) = false from rfl, cq, if_neg h34, if_neg h92]
            rw [show ((0 : Nat) == 1) = false from rfl] at this
            rw [this.1]
            simp; omega
    | 1, h =>
      have go : ∀ q', (q' == 1) = false → (ss q' t).map (· + 1) = some n → cq true (c :: t) = some (n - 1) ∧ 1 ≤ n := by
        intro q' hq h'
        obtain ⟨m, hm, rfl⟩ := map_some h'
        have := ih q' m hm
        rw [hq] at this
        refine ⟨?_, by omega⟩
        simp only [cq]
        rw [this.1]
        simp; omega
      simp only [ss] at h
      split at h
      · exact go 0 rfl h
      · split at h
        · exact go 5 rfl h
        · cases h
    | 2, h =>
      simp only [ss] at h
      split at h
      · rename_i hx
        have hx := hex_plain hx
        obtain ⟨m, hm, rfl⟩ := map_some h
        have := ih 0 m hm
        rw [show ((0 : Nat) == 1) = false from rfl] at this
        refine ⟨?_, by omega⟩
        simp only [show ((2 : Nat) == 1) = false from rfl, cq, if_neg hx.1, if_neg hx.2]
        rw [this.1]
        simp; omega
      · cases h
    | k + 3, h =>
      simp only [ss] at h
      split at h
      · rename_i hx
        have hx := hex_plain hx
        obtain ⟨m, hm, rfl⟩ := map_some h
        have := ih (k + 2) m hm
        rw [show ((k + 2 : Nat) == 1) = false from by simp] at this
        refine ⟨?_, by omega⟩
        simp only [show ((k + 3 : Nat) == 1) = false from by simp, cq, if_neg hx.1, if_neg hx.2]
        rw [this.1]
        simp; omega
      · cases h

theorem sm_of_cq (D : Nat) (l : List Int) : ∀ b k, cq b l = some k → sm (if b then 2 else 1) D l = (sm 0 D (l.drop (k + 1))).map (· + (k + 1)) := by
  induction l with
  | nil => intro b k h; simp [cq] at h
  | cons c t ih =>
    intro b k h
    cases b with
    | false =>
      simp only [cq] at h
      split at h
      · rename_i h34
        cases h
        simp [sm, h34]
      · rename_i h34
        split at h
        · rename_i h92
          obtain ⟨m, hm, rfl⟩ := map_some h
          have := ih true m hm
          simp only [if_true] at this
          simp only [Bool.false_eq_true, if_false, sm, if_neg h34, if_pos h92]
          rw [this, map_map]
          rfl
        · rename_i h92
          obtain ⟨m, hm, rfl⟩ := map_some h
          have := ih false m hm
          simp only [Bool.false_eq_true, if_false] at this
          simp only [Bool.false_eq_true, if_false, sm, if_neg h34, if_neg h92]
          rw [this, map_map]
          rfl
    | true =>
      simp only [cq] at h
      obtain ⟨m, hm, rfl⟩ := map_some h
      have := ih false m hm
      simp only [Bool.false_eq_true, if_false] at this
      simp only [if_true, sm]
      rw [this, map_map]
      rfl

/-- The scan, within brackets, passes over the first n bytes. -/
def Pass (n : Nat) (l : List Int) : Prop := ∀ D, 1 ≤ D → sm 0 D l = (sm 0 D (l.drop n)).map (· + n)

theorem pass_zero (l : List Int) : Pass 0 l := fun D _ => by simp
theorem pass_add {m n : Nat} {l : List Int} (h : Pass m l) (g : Pass n (l.drop m)) : Pass (m + n) l := fun D hD => by
  rw [h D hD, g D hD, map_map, List.drop_drop, Nat.add_comm n m]

def plain (c : Int) : Prop := ¬ c = 34 ∧ ¬ (c = 123 ∨ c = 91) ∧ ¬ (c = 125 ∨ c = 93)

theorem pass_one {c : Int} {t : List Int} (h : plain c) : Pass 1 (c :: t) := fun D _ => by
  simp only [sm, if_neg h.1, if_neg h.2.1, if_neg h.2.2, List.drop_succ_cons, List.drop_zero]

theorem pass_plain (n : Nat) : ∀ l : List Int, n ≤ l.length → (∀ c ∈ l.take n, plain c) → Pass n l := by
  induction n with
  | zero => intro l _ _; exact pass_zero l
  | succ n ih =>
    intro l hl h
    cases l with
    | nil => simp at hl
    | cons c t =>
      rw [Nat.add_comm]
      exact pass_add (pass_one (h c (by simp))) (ih t (by simpa using hl) (fun d hd => h d (by simp [hd])))

theorem pass_at {l : List Int} {m : Nat} {c : Int} (h : l[m]? = some c) (hc : plain c) : Pass 1 (l.drop m) := by
  have := lt_of_get h
  rw [List.drop_eq_getElem_cons this]
  rw [List.getElem?_eq_getElem this] at h
  cases h
  exact pass_one hc

theorem run_mem (p : Int → Bool) (l : List Int) : ∀ c ∈ l.take (run p l), p c = true := by
  induction l with
  | nil => intro c h; simp [run] at h
  | cons d t ih =>
    intro c h
    simp only [run] at h
    split at h
    · rename_i hd
      rw [List.take_succ_cons] at h
      rcases List.mem_cons.1 h with rfl | h
      · exact hd
      · exact ih c h
    · simp at h

theorem pass_sp (l : List Int) : Pass (sp l) l := pass_plain _ l (sp_le l) fun c hc => by
  have := run_mem ws l c hc
  simp [ws] at this
  unfold plain
  omega

theorem pass_string {t : List Int} {n : Nat} (h : ss 0 t = some n) : Pass (n + 1) (34 :: t) := fun D _ => by
  have h1 := cq_of_ss t 0 n h
  rw [show ((0 : Nat) == 1) = false from rfl] at h1
  have h2 := sm_of_cq D t false (n - 1) h1.1
  have e : n - 1 + 1 = n := by omega
  rw [e] at h2
  simp only [Bool.false_eq_true, if_false] at h2
  simp only [sm, if_true, h2, map_map]
  rfl

def numc (c : Int) : Prop := (48 ≤ c ∧ c ≤ 57) ∨ c = 45 ∨ c = 43 ∨ c = 46 ∨ c = 101 ∨ c = 69

/-- All bytes of the first n fit. -/
def All (P : Int → Prop) (n : Nat) (l : List Int) : Prop := ∀ c ∈ l.take n, P c

theorem all_add {P : Int → Prop} {m n : Nat} {l : List Int} (h : All P m l) (g : All P n (l.drop m)) : All P (m + n) l := by
  intro c hc
  rw [List.take_add] at hc
  rcases List.mem_append.1 hc with hc | hc
  · exact h c hc
  · exact g c hc
theorem all_one {P : Int → Prop} {l : List Int} {c : Int} (h : l[0]? = some c) (hc : P c) : All P 1 l := by
  intro d hd
  cases l with
  | nil => simp at h
  | cons e t => simp at h hd; subst hd; subst h; exact hc
theorem all_dg (l : List Int) : All numc (dg l) l := fun c hc => by
  have := run_mem digit l c hc
  simp [digit] at this
  exact .inl this

theorem all_ip {l : List Int} {n : Nat} (h : ip l = some n) : All numc n l := by
  unfold ip at h
  split at h
  · rename_i h1
    cases h
    exact all_one h1 (by unfold numc; omega)
  · split at h
    · rename_i h1
      cases h
      cases l with
      | nil => simp at h1
      | cons c t =>
        refine all_add (all_one rfl ?_) (all_dg _)
        simp [at', digit] at h1
        exact .inl h1
    · cases h
theorem all_frac {l : List Int} {n : Nat} (h : frac l = some n) : All numc n l := by
  unfold frac at h
  split at h
  · rename_i h1
    split at h
    · cases h
    · cases h
      exact all_add (all_one h1 (by unfold numc; omega)) (all_dg _)
  · cases h; intro c hc; simp at hc
theorem all_expo {l : List Int} {n : Nat} (h : expo l = some n) : All numc n l := by
  unfold expo at h
  split at h
  · rename_i h1
    have hs : All numc (expS l) l := by
      have hE : All numc 1 l := by rcases h1 with h1 | h1 <;> exact all_one h1 (by unfold numc; omega)
      unfold expS
      split
      · rename_i h2
        refine all_add (m := 1) (n := 1) hE ?_
        rcases h2 with h2 | h2
        · exact all_one (by simpa using h2) (by unfold numc; omega)
        · exact all_one (by simpa using h2) (by unfold numc; omega)
      · exact hE
    split at h
    · cases h
    · cases h
      exact all_add hs (all_dg _)
  · cases h; intro c hc; simp at hc
theorem all_minus (l : List Int) : All numc (minus l) l := by
  unfold minus
  split
  · rename_i h; exact all_one h (by unfold numc; omega)
  · intro c hc; simp at hc
theorem all_num {l : List Int} {n : Nat} (h : num l = some n) : All numc n l := by
  unfold num at h
  split at h
  · cases h
  · rename_i a ha
    split at h
    · cases h
    · rename_i b hb
      obtain ⟨c, hc, rfl⟩ := map_some h
      rw [Nat.add_comm]
      exact all_add (all_add (all_add (all_minus l) (all_ip ha)) (all_frac hb)) (all_expo hc)

theorem lit_take {w l : List Int} {n : Nat} (h : lit w l = some n) : n = w.length ∧ l.take n = w := by
  unfold lit at h
  split at h
  · rename_i h1
    cases h
    exact ⟨rfl, h1⟩
  · cases h

theorem all_lit {P : Int → Prop} {w l : List Int} {n : Nat} (h : lit w l = some n) (hw : ∀ c ∈ w, P c) : All P n l := by
  obtain ⟨rfl, h2⟩ := lit_take h
  unfold All
  rw [h2]
  exact hw

theorem pass_all {n : Nat} {l : List Int} (hn : n ≤ l.length) (h : All plain n l) : Pass n l := pass_plain n l hn h

theorem numc_plain {c : Int} (h : numc c) : plain c := by unfold numc at h; unfold plain; omega

end Go.Proofs.Qxb6602184a
