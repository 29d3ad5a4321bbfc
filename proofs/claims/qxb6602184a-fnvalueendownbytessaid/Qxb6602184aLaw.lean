/-
  The two plain laws: valueEnd's scan ends where the recogniser ends; what the recogniser reads, it reads of those bytes alone. No Go.
-/
import Derived.Test.Qxb6602184aScan
namespace Go.Proofs.Qxb6602184a

/-- The scan at depth D, inside a bracket, comes to that bracket's end behind n bytes. -/
def Close (n : Nat) (l : List Int) : Prop := ∀ D, 1 ≤ D → sm 0 D l = if D = 1 then some n else (sm 0 (D - 1) (l.drop n)).map (· + n)

theorem pass_close {m n : Nat} {l : List Int} (h : Pass m l) (g : Close n (l.drop m)) : Close (m + n) l := fun D hD => by
  rw [h D hD, g D hD]
  split
  · simp; omega
  · rw [map_map, List.drop_drop, Nat.add_comm n m]

theorem close_at {l : List Int} {m : Nat} {c : Int} (h : l[m]? = some c) (hc : c = 125 ∨ c = 93) : Close 1 (l.drop m) := fun D _ => by
  have h1 := lt_of_get h
  rw [List.getElem?_eq_getElem h1] at h
  cases h
  rw [List.drop_eq_getElem_cons h1]
  have n1 : ¬ l[m] = 34 := by omega
  have n2 : ¬ (l[m] = 123 ∨ l[m] = 91) := by omega
  simp only [sm, if_neg n1, if_neg n2, if_pos hc, List.drop_succ_cons, List.drop_zero]

theorem open_close {c : Int} {t : List Int} {n : Nat} (hc : c = 123 ∨ c = 91) (h : Close n t) : Pass (n + 1) (c :: t) ∧ sm 0 0 (c :: t) = some (n + 1) := by
  have n1 : ¬ c = 34 := by omega
  refine ⟨fun D hD => ?_, ?_⟩
  · simp only [sm, if_neg n1, if_pos hc]
    rw [h (D + 1) (by omega), if_neg (by omega), map_map]
    rfl
  · simp only [sm, if_neg n1, if_pos hc]
    rw [h 1 (Nat.le_refl _), if_pos rfl]
    rfl

/-- What a reader of the family owes the scan. -/
def Fit (r : Nat → List Int → Option Nat) : Prop := (∀ l n, r 0 l = some n → Pass n l) ∧ (∀ l n, r 1 l = some n → Close n l) ∧ (∀ l n, r 2 l = some n → Close n l)

theorem more_close {r : Nat → List Int → Option Nat} {t : Nat} {k : Int} {l : List Int} {e n : Nat} (hr : ∀ l n, r t l = some n → Close n l) (hk : k = 125 ∨ k = 93) (he : Pass e l) (h : more r t k l e = some n) : Close n l := by
  have hp : Pass (e + sp (l.drop e)) l := pass_add he (pass_sp _)
  unfold more at h
  split at h
  · rename_i h1
    cases h
    exact pass_close hp (close_at h1 hk)
  · split at h
    · rename_i h1
      obtain ⟨m, hm, rfl⟩ := map_some h
      rw [Nat.add_comm]
      refine pass_close (pass_add (pass_add hp (pass_at h1 ?_)) (pass_sp _)) (hr _ _ hm)
      unfold plain; omega
    · cases h

theorem key_pass {l : List Int} {v : Nat} (h : key l = some v) : Pass v l := by
  unfold key at h
  split at h
  · rename_i h0
    obtain ⟨e, he, h⟩ := Option.bind_eq_some_iff.1 h
    split at h
    · rename_i h1
      cases h
      have hs : Pass (e + 1) l := by
        cases l with
        | nil => simp at h0
        | cons c t =>
          simp at h0
          subst h0
          exact pass_string he
      refine pass_add (pass_add (pass_add hs (pass_sp _)) (pass_at h1 ?_)) (pass_sp _)
      unfold plain; omega
    · cases h
  · cases h

theorem box_close {r : Nat → List Int → Option Nat} {t : Nat} {k c : Int} {l : List Int} {n : Nat} (hr : ∀ l n, r t l = some n → Close n l) (hk : k = 125 ∨ k = 93) (hc : c = 123 ∨ c = 91)
    (h : (if (c :: l)[1 + sp l]? = some k then some (1 + sp l + 1) else (r t ((c :: l).drop (1 + sp l))).map (· + (1 + sp l))) = some n) : Pass n (c :: l) ∧ sm 0 0 (c :: l) = some n := by
  split at h
  · rename_i h1
    cases h
    have h2 : l[sp l]? = some k := by rw [Nat.add_comm] at h1; simpa using h1
    rw [Nat.add_comm 1 (sp l)]
    exact open_close hc (pass_close (pass_sp l) (close_at h2 hk))
  · obtain ⟨m, hm, rfl⟩ := map_some h
    have h2 : (c :: l).drop (1 + sp l) = l.drop (sp l) := by rw [Nat.add_comm]; rfl
    rw [h2] at hm
    have := open_close hc (pass_close (pass_sp l) (hr _ _ hm))
    have e : m + (1 + sp l) = sp l + m + 1 := by omega
    rw [e]
    exact this

theorem val_scan {r : Nat → List Int → Option Nat} (hr : Fit r) {l : List Int} {n : Nat} (h : val r l = some n) : Pass n l ∧ (at' l 0 = 123 ∨ at' l 0 = 91 → sm 0 0 l = some n) := by
  unfold val at h
  split at h
  · cases h
  rename_i hne
  obtain ⟨c, t, rfl⟩ : ∃ c t, l = c :: t := by
    cases l with
    | nil => exact absurd rfl hne
    | cons c t => exact ⟨c, t, rfl⟩
  have e0 : at' (c :: t) 0 = c := rfl
  rw [e0] at h ⊢
  split at h
  · rename_i h1
    subst h1
    obtain ⟨m, hm, rfl⟩ := map_some h
    exact ⟨pass_string hm, fun h => by omega⟩
  split at h
  · have := box_close (l := t) (c := c) hr.2.2 (.inl rfl) (by omega) h
    exact ⟨this.1, fun _ => this.2⟩
  split at h
  · have := box_close (l := t) (c := c) hr.2.1 (.inr rfl) (by omega) h
    exact ⟨this.1, fun _ => this.2⟩
  split at h
  · refine ⟨pass_all (lit_bd h).2 (all_lit h ?_), fun h => by omega⟩
    intro d hd
    simp at hd
    unfold plain; omega
  split at h
  · refine ⟨pass_all (lit_bd h).2 (all_lit h ?_), fun h => by omega⟩
    intro d hd
    simp at hd
    unfold plain; omega
  split at h
  · refine ⟨pass_all (lit_bd h).2 (all_lit h ?_), fun h => by omega⟩
    intro d hd
    simp at hd
    unfold plain; omega
  split at h
  · exact ⟨pass_all (num_bd h).2 (fun d hd => numc_plain (all_num h d hd)), fun h => by omega⟩
  · cases h

theorem step_fit {r : Nat → List Int → Option Nat} (hr : Fit r) : Fit (step r) := by
  refine ⟨fun l n h => ?_, fun l n h => ?_, fun l n h => ?_⟩
  · exact (val_scan hr (by simpa [step] using h)).1
  · have h : els r l = some n := by simpa [step] using h
    obtain ⟨e, he, h⟩ := Option.bind_eq_some_iff.1 h
    exact more_close hr.2.1 (.inr rfl) (hr.1 _ _ he) h
  · have h : mem r l = some n := by simpa [step] using h
    obtain ⟨v, hv, h⟩ := Option.bind_eq_some_iff.1 h
    obtain ⟨e, he, h⟩ := Option.bind_eq_some_iff.1 h
    exact more_close hr.2.2 (.inl rfl) (pass_add (key_pass hv) (hr.1 _ _ he)) h

theorem pj_fit (f : Nat) : Fit (pj f) := by
  induction f with
  | zero => refine ⟨?_, ?_, ?_⟩ <;> (intro l n h; simp [pj] at h)
  | succ f ih => exact step_fit ih

def delim (c : Int) : Bool := c == 44 || c == 125 || c == 93 || ws c

/-- valueEnd, from the value's first byte on. -/
def ve (l : List Int) : Option Nat :=
  if at' l 0 = 34 then (cq false (l.drop 1)).map (· + 2)
  else if at' l 0 = 123 ∨ at' l 0 = 91 then sm 0 0 l
  else some (run (fun c => !delim c) l)

theorem run_exact (p : Int → Bool) (n : Nat) : ∀ l : List Int, n ≤ l.length → (∀ c ∈ l.take n, p c = true) → (n = l.length ∨ p (at' l n) = false) → run p l = n := by
  induction n with
  | zero =>
    intro l _ _ h
    cases l with
    | nil => rfl
    | cons c t =>
      rcases h with h | h
      · simp at h
      · have : p c = false := h
        simp [run, this]
  | succ n ih =>
    intro l hl h1 h2
    cases l with
    | nil => simp at hl
    | cons c t =>
      have hc : p c = true := h1 c (by simp)
      simp only [run, if_pos hc]
      rw [ih t (by simpa using hl) (fun d hd => h1 d (by simp [hd])) ?_]
      rcases h2 with h2 | h2
      · left; simpa using h2
      · right; simpa [at', List.getD] using h2

/-- The domain: what follows a number or a literal ends it. -/
def dom (l : List Int) (n : Nat) : Prop := at' l 0 = 34 ∨ at' l 0 = 123 ∨ at' l 0 = 91 ∨ n = l.length ∨ delim (at' l n) = true

/-- THE FIRST LAW. -/
theorem ve_of_G {l : List Int} {n : Nat} (h : G 0 l = some n) (hd : dom l n) : ve l = some n := by
  have hb := G_bd h
  rw [G_eq] at h
  have h : val G l = some n := by simpa [step] using h
  have hs := val_scan ⟨fun l n h => (pj_fit _).1 l n h, fun l n h => (pj_fit _).2.1 l n h, fun l n h => (pj_fit _).2.2 l n h⟩ h
  unfold ve
  by_cases h1 : at' l 0 = 34
  · rw [if_pos h1]
    unfold val at h
    split at h
    · cases h
    obtain ⟨m, hm, rfl⟩ := map_some h
    have h2 := cq_of_ss _ 0 m hm
    rw [show ((0 : Nat) == 1) = false from rfl] at h2
    rw [h2.1]
    simp
    omega
  · rw [if_neg h1]
    by_cases h2 : at' l 0 = 123 ∨ at' l 0 = 91
    · rw [if_pos h2]
      exact hs.2 h2
    · rw [if_neg h2]
      congr 1
      refine run_exact _ n l hb.2 ?_ ?_
      · -- every byte of a number or a literal is no delimiter
        have key : All (fun c => (!delim c) = true) n l := by
          unfold val at h
          split at h
          · cases h
          rw [if_neg (by omega), if_neg (by omega)] at h
          split at h
          · refine all_lit h ?_
            intro d hd
            simp at hd
            rcases hd with rfl | rfl | rfl | rfl <;> decide
          split at h
          · refine all_lit h ?_
            intro d hd
            simp at hd
            rcases hd with rfl | rfl | rfl | rfl | rfl <;> decide
          split at h
          · refine all_lit h ?_
            intro d hd
            simp at hd
            rcases hd with rfl | rfl | rfl <;> decide
          split at h
          · intro d hd
            have := all_num h d hd
            unfold numc at this
            simp [delim, ws]
            omega
          · cases h
        exact key
      · rcases hd with h | h | h | h | h
        · omega
        · omega
        · omega
        · exact .inl h
        · right; simp [h]

end Go.Proofs.Qxb6602184a
