/-
  The second plain law: what the recogniser reads, it reads of those bytes alone. No Go.
-/
import Derived.Test.Qxb6602184aLaw
namespace Go.Proofs.Qxb6602184a

theorem get_take {l : List Int} {i m : Nat} (h : i < m) : (l.take m)[i]? = l[i]? := by
  rw [List.getElem?_take, if_pos h]
theorem get_take_some {l : List Int} {i m : Nat} {c : Int} (h : (l.take m)[i]? = some c) : l[i]? = some c := by
  rw [List.getElem?_take] at h
  split at h
  · exact h
  · cases h
theorem drop_take' (l : List Int) (i m : Nat) : (l.take m).drop i = (l.drop i).take (m - i) := List.drop_take

theorem run_take (p : Int → Bool) (l : List Int) : ∀ m, run p l ≤ m → run p (l.take m) = run p l := by
  induction l with
  | nil => intro m _; simp
  | cons c t ih =>
    intro m hm
    simp only [run] at hm ⊢
    cases m with
    | zero =>
      split at hm
      · omega
      · rename_i hc; simp [run, hc]
    | succ m =>
      rw [List.take_succ_cons]
      simp only [run]
      split
      · rename_i hc
        rw [if_pos hc] at hm
        rw [ih m (by omega)]
      · rfl
theorem sp_take {l : List Int} {e m : Nat} (h : e + sp (l.drop e) ≤ m) : sp ((l.take m).drop e) = sp (l.drop e) := by
  rw [drop_take']
  exact run_take ws _ _ (by unfold sp at h; omega)
theorem dg_take {l : List Int} {e m : Nat} (h : e + dg (l.drop e) ≤ m) : dg ((l.take m).drop e) = dg (l.drop e) := by
  rw [drop_take']
  exact run_take digit _ _ (by unfold dg at h; omega)

theorem ss_take (l : List Int) : ∀ q n m, ss q l = some n → n ≤ m → ss q (l.take m) = some n := by
  induction l with
  | nil => intro q n m h; simp [ss] at h
  | cons c t ih =>
    intro q n m h hm
    have hn := (ss_bd _ _ _ h).1
    obtain ⟨k, rfl⟩ : ∃ k, m = k + 1 := ⟨m - 1, by omega⟩
    rw [List.take_succ_cons]
    have go : ∀ q', (ss q' t).map (· + 1) = some n → (ss q' (t.take k)).map (· + 1) = some n := by
      intro q' h'
      obtain ⟨j, hj, rfl⟩ := map_some h'
      rw [ih q' j k hj (by omega)]
      rfl
    match q, h with
    | 0, h =>
      simp only [ss] at h ⊢
      split
      · rename_i h1; rw [if_pos h1] at h; exact h
      · rename_i h1
        rw [if_neg h1] at h
        split
        · rename_i h2; rw [if_pos h2] at h; exact h
        · rename_i h2
          rw [if_neg h2] at h
          split
          · rename_i h3; rw [if_pos h3] at h; exact go _ h
          · rename_i h3; rw [if_neg h3] at h; exact go _ h
    | 1, h =>
      simp only [ss] at h ⊢
      split
      · rename_i h1; rw [if_pos h1] at h; exact go _ h
      · rename_i h1
        rw [if_neg h1] at h
        split
        · rename_i h2; rw [if_pos h2] at h; exact go _ h
        · rename_i h2; rw [if_neg h2] at h; exact h
    | 2, h =>
      simp only [ss] at h ⊢
      split
      · rename_i h1; rw [if_pos h1] at h; exact go _ h
      · rename_i h1; rw [if_neg h1] at h; exact h
    | j + 3, h =>
      simp only [ss] at h ⊢
      split
      · rename_i h1; rw [if_pos h1] at h; exact go _ h
      · rename_i h1; rw [if_neg h1] at h; exact h

theorem lit_cut {w l : List Int} {n m : Nat} (h : lit w l = some n) (hm : n ≤ m) : lit w (l.take m) = some n := by
  obtain ⟨rfl, h2⟩ := lit_take h
  unfold lit
  rw [List.take_take, Nat.min_eq_left hm, h2, if_pos rfl]

theorem at_take {l : List Int} {i m : Nat} (h : i < m) : at' (l.take m) i = at' l i := by
  unfold at'
  simp only [List.getD]
  rw [get_take h]

theorem ip_cut {l : List Int} {n m : Nat} (h : ip l = some n) (hm : n ≤ m) : ip (l.take m) = some n := by
  have hb := ip_bd h
  unfold ip at h ⊢
  rw [get_take (by omega), at_take (by omega)]
  split
  · rename_i h1; rw [if_pos h1] at h; exact h
  · rename_i h1
    rw [if_neg h1] at h
    split at h
    · rename_i h2
      cases h
      have h3 : 0 < (l.take m).length := by simp; omega
      simp only [Bool.and_eq_true, decide_eq_true_eq] at h2
      rw [if_pos (by simp only [Bool.and_eq_true, decide_eq_true_eq]; exact ⟨h2.1, h3⟩), dg_take (by omega)]
    · cases h

theorem frac_cut {l : List Int} {n m : Nat} (h : frac l = some n) (hm : n ≤ m) : frac (l.take m) = some n := by
  unfold frac at h ⊢
  split at h
  · rename_i h1
    split at h
    · cases h
    · rename_i h2
      cases h
      rw [get_take (by omega), if_pos h1, dg_take (by omega), if_neg h2]
  · rename_i h1
    cases h
    rw [if_neg (fun h2 => h1 (get_take_some h2))]

theorem expS_pos (l : List Int) : 1 ≤ expS l := by unfold expS; split <;> omega
theorem expS_take {l : List Int} {m : Nat} (h : 2 ≤ m) : expS (l.take m) = expS l := by
  unfold expS
  rw [get_take (by omega)]

theorem expo_cut {l : List Int} {n m : Nat} (h : expo l = some n) (hm : n ≤ m) : expo (l.take m) = some n := by
  unfold expo at h ⊢
  split at h
  · rename_i h1
    split at h
    · cases h
    · rename_i h2
      cases h
      have := expS_pos l
      rw [expS_take (by omega), get_take (by omega), if_pos h1, dg_take (by omega), if_neg h2]
  · rename_i h1
    cases h
    rw [if_neg ?_]
    intro h2
    rcases h2 with h2 | h2
    · exact h1 (.inl (get_take_some h2))
    · exact h1 (.inr (get_take_some h2))

theorem minus_take {l : List Int} {m : Nat} (h : 1 ≤ m) : minus (l.take m) = minus l := by
  unfold minus
  rw [get_take (by omega)]

theorem num_cut {l : List Int} {n m : Nat} (h : num l = some n) (hm : n ≤ m) : num (l.take m) = some n := by
  have hb := num_bd h
  unfold num at h ⊢
  split at h
  · cases h
  · rename_i a ha
    split at h
    · cases h
    · rename_i b hb2
      obtain ⟨c, hc, rfl⟩ := map_some h
      rw [minus_take (by omega), drop_take', ip_cut ha (by omega)]
      simp only
      rw [drop_take', frac_cut hb2 (by omega)]
      simp only
      rw [drop_take', expo_cut hc (by omega)]
      rfl

/-- A reader of the family reads its own bytes alone. -/
def Cut (r : Nat → List Int → Option Nat) : Prop := ∀ t l n m, r t l = some n → n ≤ m → r t (l.take m) = some n

theorem more_cut {r : Nat → List Int → Option Nat} (hr : Cut r) {t : Nat} {k : Int} {l : List Int} {e n m : Nat} (h : more r t k l e = some n) (hm : n ≤ m) : more r t k (l.take m) e = some n := by
  unfold more at h
  split at h
  · rename_i h1
    cases h
    unfold more
    rw [sp_take (by omega), get_take (by omega), if_pos h1]
  · rename_i h1
    split at h
    · rename_i h2
      obtain ⟨j, hj, rfl⟩ := map_some h
      unfold more
      rw [sp_take (by omega), get_take (by omega), if_neg h1, if_pos h2, sp_take (by omega), drop_take', hr _ _ _ _ hj (by omega)]
      rfl
    · cases h

theorem key_cut {l : List Int} {v m : Nat} (h : key l = some v) (hm : v ≤ m) : key (l.take m) = some v := by
  have hb := key_bd h
  unfold key at h ⊢
  split at h
  · rename_i h0
    obtain ⟨e, he, h⟩ := Option.bind_eq_some_iff.1 h
    split at h
    · rename_i h1
      cases h
      rw [get_take (by omega), if_pos h0, drop_take', ss_take _ _ _ _ he (by omega)]
      simp only [Option.bind_some]
      rw [sp_take (by omega), get_take (by omega), if_pos h1, sp_take (by omega)]
    · cases h
  · cases h

theorem box_cut {r : Nat → List Int → Option Nat} (hr : Cut r) {t : Nat} {k : Int} {l : List Int} {n m : Nat} (hm : n ≤ m)
    (h : (if l[1 + sp (l.drop 1)]? = some k then some (1 + sp (l.drop 1) + 1) else (r t (l.drop (1 + sp (l.drop 1)))).map (· + (1 + sp (l.drop 1)))) = some n) :
    (if (l.take m)[1 + sp ((l.take m).drop 1)]? = some k then some (1 + sp ((l.take m).drop 1) + 1) else (r t ((l.take m).drop (1 + sp ((l.take m).drop 1)))).map (· + (1 + sp ((l.take m).drop 1)))) = some n := by
  split at h
  · rename_i h1
    cases h
    rw [sp_take (by omega), get_take (by omega), if_pos h1]
  · rename_i h1
    obtain ⟨j, hj, rfl⟩ := map_some h
    rw [sp_take (by omega), if_neg (fun h2 => h1 (get_take_some h2)), drop_take', hr _ _ _ _ hj (by omega)]
    rfl

theorem val_cut {r : Nat → List Int → Option Nat} (hf : Fair r) (hr : Cut r) {l : List Int} {n m : Nat} (h : val r l = some n) (hm : n ≤ m) : val r (l.take m) = some n := by
  have hb : 1 ≤ n ∧ n ≤ l.length := step_fair hf 0 l n (by simpa [step] using h)
  have hne : ¬ l.take m = [] := by
    intro e
    have := congrArg List.length e
    simp only [List.length_take, List.length_nil] at this
    omega
  unfold val at h ⊢
  rw [if_neg hne, at_take (by omega)]
  split at h
  · cases h
  split at h
  · rename_i h1
    rw [if_pos h1]
    obtain ⟨j, hj, rfl⟩ := map_some h
    rw [drop_take', ss_take _ _ _ _ hj (by omega)]
    rfl
  rename_i h1
  rw [if_neg h1]
  split at h
  · rename_i h2
    rw [if_pos h2]
    exact box_cut hr hm h
  rename_i h2
  rw [if_neg h2]
  split at h
  · rename_i h3
    rw [if_pos h3]
    exact box_cut hr hm h
  rename_i h3
  rw [if_neg h3]
  split at h
  · rename_i h4
    rw [if_pos h4]
    exact lit_cut h hm
  rename_i h4
  rw [if_neg h4]
  split at h
  · rename_i h5
    rw [if_pos h5]
    exact lit_cut h hm
  rename_i h5
  rw [if_neg h5]
  split at h
  · rename_i h6
    rw [if_pos h6]
    exact lit_cut h hm
  rename_i h6
  rw [if_neg h6]
  split at h
  · rename_i h7
    rw [if_pos h7]
    exact num_cut h hm
  · cases h

theorem step_cut {r : Nat → List Int → Option Nat} (hf : Fair r) (hr : Cut r) : Cut (step r) := by
  intro t l n m h hm
  unfold step at h ⊢
  split
  · rename_i ht
    rw [if_pos ht] at h
    exact val_cut hf hr h hm
  · rename_i ht
    rw [if_neg ht] at h
    split
    · rename_i ht1
      rw [if_pos ht1] at h
      obtain ⟨e, he, h⟩ := Option.bind_eq_some_iff.1 h
      have := more_bd hf h
      unfold els
      rw [hr _ _ _ _ he (by omega)]
      exact more_cut hr h hm
    · rename_i ht1
      rw [if_neg ht1] at h
      obtain ⟨v, hv, h⟩ := Option.bind_eq_some_iff.1 h
      obtain ⟨e, he, h⟩ := Option.bind_eq_some_iff.1 h
      have := more_bd hf h
      unfold mem
      rw [key_cut hv (by omega)]
      simp only [Option.bind_some]
      rw [drop_take', hr _ _ _ _ he (by omega)]
      exact more_cut hr h hm

theorem pj_cut (f : Nat) : Cut (pj f) := by
  induction f with
  | zero => intro t l n m h; cases h
  | succ f ih => exact step_cut (pj_fair f) ih

/-- THE SECOND LAW. -/
theorem G_own {l : List Int} {n : Nat} (h : G 0 l = some n) : G 0 (l.take n) = some n := by
  have hb := G_bd h
  have h1 := pj_cut _ 0 l n n h (Nat.le_refl _)
  rwa [G_of (by simp [need]; omega)] at h1

end Go.Proofs.Qxb6602184a
