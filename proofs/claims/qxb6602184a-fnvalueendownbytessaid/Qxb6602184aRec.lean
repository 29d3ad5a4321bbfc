/-
  The recogniser's own loops, by places in the whole text. No walk here.
-/
import Derived.Test.Qxb6602184aLit
namespace Go.Proofs.Qxb6602184a

theorem spE_bd {xs : List Int} {k : Nat} (h : k ≤ xs.length) : k ≤ spE xs k ∧ spE xs k ≤ xs.length := by
  have := sp_le (xs.drop k)
  rw [List.length_drop] at this
  unfold spE
  omega

theorem G_val (l : List Int) : G 0 l = val G l := by rw [G_eq]; rfl
theorem G_els (l : List Int) : G 1 l = els G l := by rw [G_eq]; rfl
theorem G_mem (l : List Int) : G 2 l = mem G l := by rw [G_eq]; rfl

/-- A loop over elements (t = 1) or members (t = 2) stands at k; the whole began at i. -/
def Lp (xs : List Int) (t i k : Nat) (o : Option Nat) : Prop := i < k ∧ o = (G t (xs.drop k)).map (· + (k - i))
/-- An element or a member has ended at e. -/
def Mo (xs : List Int) (t : Nat) (c : Int) (i e : Nat) (o : Option Nat) : Prop :=
  i < e ∧ o = if xs[spE xs e]? = some c then some (spE xs e + 1 - i) else if xs[spE xs e]? = some 44 then (G t (xs.drop (spE xs (spE xs e + 1)))).map (· + (spE xs (spE xs e + 1) - i)) else none

theorem mo_of {xs : List Int} {t : Nat} {c : Int} {i k e : Nat} {o : Option Nat} (hi : i < k) (h : o = (more G t c (xs.drop k) e).map (· + (k - i))) : Mo xs t c i (k + e) o := by
  refine ⟨by omega, ?_⟩
  rw [h]
  unfold more spE
  rw [List.drop_drop, get_drop, ← Nat.add_assoc]
  split
  · simp; omega
  · split
    · have e1 : k + (e + sp (xs.drop (k + e)) + 1) = k + e + sp (xs.drop (k + e)) + 1 := by omega
      rw [List.drop_drop, List.drop_drop, e1]
      have e2 : k + (e + sp (xs.drop (k + e)) + 1 + sp (xs.drop (k + e + sp (xs.drop (k + e)) + 1))) = k + e + sp (xs.drop (k + e)) + 1 + sp (xs.drop (k + e + sp (xs.drop (k + e)) + 1)) := by omega
      rw [e2, map_map]
      congr 1
      funext n
      omega
    · rfl

theorem mo_out {xs : List Int} {t : Nat} {c : Int} {i e : Nat} {o : Option Nat} (h : Mo xs t c i e o) (hl : xs.length ≤ spE xs e) : o = none := by
  have h1 := h.2
  rw [List.getElem?_eq_none hl] at h1
  simpa using h1
theorem mo_close {xs : List Int} {t : Nat} {c : Int} {i e : Nat} {o : Option Nat} (h : Mo xs t c i e o) (hl : spE xs e < xs.length) (hc : at' xs (spE xs e) = c) : o = some (spE xs e + 1 - i) := by
  have h1 := h.2
  rw [if_pos (get_iff.2 ⟨hl, hc⟩)] at h1
  exact h1
theorem mo_bad {xs : List Int} {t : Nat} {c : Int} {i e : Nat} {o : Option Nat} (h : Mo xs t c i e o) (hc : ¬ at' xs (spE xs e) = c) (h44 : ¬ at' xs (spE xs e) = 44) : o = none := by
  have h1 := h.2
  rw [if_neg (fun h2 => hc (get_iff.1 h2).2), if_neg (fun h2 => h44 (get_iff.1 h2).2)] at h1
  exact h1
theorem mo_comma {xs : List Int} {t : Nat} {c : Int} {i e : Nat} {o : Option Nat} (h : Mo xs t c i e o) (hl : spE xs e < xs.length) (hc : ¬ at' xs (spE xs e) = c) (h44 : at' xs (spE xs e) = 44) : Lp xs t i (spE xs (spE xs e + 1)) o := by
  have h1 := h.2
  rw [if_neg (fun h2 => hc (get_iff.1 h2).2), if_pos (get_iff.2 ⟨hl, h44⟩)] at h1
  have h2 : i < spE xs (spE xs e + 1) := by
    have := h.1
    unfold spE
    omega
  exact ⟨h2, h1⟩

theorem els_none {xs : List Int} {i k : Nat} {o : Option Nat} (h : Lp xs 1 i k o) (hv : G 0 (xs.drop k) = none) : o = none := by
  have h1 := h.2
  rw [G_els, els, hv] at h1
  exact h1
theorem els_some {xs : List Int} {i k n : Nat} {o : Option Nat} (h : Lp xs 1 i k o) (hv : G 0 (xs.drop k) = some n) : Mo xs 1 93 i (k + n) o := by
  have h1 := h.2
  rw [G_els, els, hv] at h1
  exact mo_of h.1 h1

theorem mem_noquote {xs : List Int} {i k : Nat} {o : Option Nat} (h : Lp xs 2 i k o) (hq : ¬ (k < xs.length ∧ at' xs k = 34)) : o = none := by
  have h1 := h.2
  rw [G_mem, mem, key, get_drop, Nat.add_zero, if_neg (fun h2 => hq (get_iff.1 h2))] at h1
  exact h1
theorem mem_nostr {xs : List Int} {i k : Nat} {o : Option Nat} (h : Lp xs 2 i k o) (hk : k < xs.length) (hq : at' xs k = 34) (hs : strO xs k = none) : o = none := by
  have h1 := h.2
  have hs2 : ss 0 (xs.drop (k + 1)) = none := by
    unfold strO at hs
    simpa using hs
  rw [G_mem, mem, key, get_drop, Nat.add_zero, if_pos (get_iff.2 ⟨hk, hq⟩), List.drop_drop, hs2] at h1
  exact h1
theorem mem_str {xs : List Int} {i k n : Nat} {o : Option Nat} (h : Lp xs 2 i k o) (hk : k < xs.length) (hq : at' xs k = 34) (hs : strO xs k = some n) :
    (¬ (spE xs (k + n) < xs.length ∧ at' xs (spE xs (k + n)) = 58) → o = none) ∧
    (spE xs (k + n) < xs.length → at' xs (spE xs (k + n)) = 58 →
      (G 0 (xs.drop (spE xs (spE xs (k + n) + 1))) = none → o = none) ∧
      ∀ m, G 0 (xs.drop (spE xs (spE xs (k + n) + 1))) = some m → Mo xs 2 125 i (spE xs (spE xs (k + n) + 1) + m) o) := by
  have h1 := h.2
  have h0 := h.1
  unfold strO at hs
  obtain ⟨e, he, rfl⟩ := map_some hs
  rw [G_mem, mem, key, get_drop, Nat.add_zero, if_pos (get_iff.2 ⟨hk, hq⟩), List.drop_drop, he] at h1
  simp only [Option.bind_some] at h1
  rw [List.drop_drop, get_drop] at h1
  have e1 : k + (e + 1 + sp (xs.drop (k + (e + 1)))) = spE xs (k + (e + 1)) := by unfold spE; omega
  rw [e1] at h1
  constructor
  · intro hno
    rw [if_neg (fun h2 => hno (get_iff.1 h2))] at h1
    exact h1
  · intro hl h58
    rw [if_pos (get_iff.2 ⟨hl, h58⟩)] at h1
    simp only [Option.bind_some] at h1
    have e2 : k + (e + 1 + sp (xs.drop (k + (e + 1))) + 1) = spE xs (k + (e + 1)) + 1 := by unfold spE; omega
    rw [List.drop_drop, List.drop_drop, e2] at h1
    have e3 : k + (e + 1 + sp (xs.drop (k + (e + 1))) + 1 + sp (xs.drop (spE xs (k + (e + 1)) + 1))) = spE xs (spE xs (k + (e + 1)) + 1) := by
      have : spE xs (spE xs (k + (e + 1)) + 1) = spE xs (k + (e + 1)) + 1 + sp (xs.drop (spE xs (k + (e + 1)) + 1)) := rfl
      omega
    rw [e3] at h1
    constructor
    · intro hn
      rw [hn] at h1
      exact h1
    · intro m hm
      rw [hm] at h1
      simp only [Option.bind_some] at h1
      have := mo_of h0 h1
      have e4 : k + (e + 1 + sp (xs.drop (k + (e + 1))) + 1 + sp (xs.drop (spE xs (k + (e + 1)) + 1)) + m) = spE xs (spE xs (k + (e + 1)) + 1) + m := by omega
      rw [e4] at this
      exact this

/-- The readings of a bracket from i on. -/
def arrO (xs : List Int) (i : Nat) : Option Nat := arr G (xs.drop i)
def objO (xs : List Int) (i : Nat) : Option Nat := obj G (xs.drop i)

theorem arr_start (xs : List Int) (i : Nat) : (spE xs (i + 1) < xs.length ∧ at' xs (spE xs (i + 1)) = 93 → arrO xs i = some (spE xs (i + 1) + 1 - i)) ∧
    (¬ (spE xs (i + 1) < xs.length ∧ at' xs (spE xs (i + 1)) = 93) → Lp xs 1 i (spE xs (i + 1)) (arrO xs i)) := by
  have e1 : i + (1 + sp (xs.drop (i + 1))) = spE xs (i + 1) := by unfold spE; omega
  constructor
  · intro h
    unfold arrO arr
    rw [List.drop_drop, get_drop, e1, if_pos (get_iff.2 h)]
    congr 1
    omega
  · intro h
    refine ⟨by omega, ?_⟩
    unfold arrO arr
    rw [List.drop_drop, get_drop, e1, if_neg (fun h2 => h (get_iff.1 h2)), List.drop_drop, e1]
    congr 1
    funext n
    omega
theorem obj_start (xs : List Int) (i : Nat) : (spE xs (i + 1) < xs.length ∧ at' xs (spE xs (i + 1)) = 125 → objO xs i = some (spE xs (i + 1) + 1 - i)) ∧
    (¬ (spE xs (i + 1) < xs.length ∧ at' xs (spE xs (i + 1)) = 125) → Lp xs 2 i (spE xs (i + 1)) (objO xs i)) := by
  have e1 : i + (1 + sp (xs.drop (i + 1))) = spE xs (i + 1) := by unfold spE; omega
  constructor
  · intro h
    unfold objO obj
    rw [List.drop_drop, get_drop, e1, if_pos (get_iff.2 h)]
    congr 1
    omega
  · intro h
    refine ⟨by omega, ?_⟩
    unfold objO obj
    rw [List.drop_drop, get_drop, e1, if_neg (fun h2 => h (get_iff.1 h2)), List.drop_drop, e1]
    congr 1
    funext n
    omega

/-- A value from i on. -/
def valO (xs : List Int) (i : Nat) : Option Nat := G 0 (xs.drop i)

theorem val_out {xs : List Int} {i : Nat} (h : xs.length ≤ i) : valO xs i = none := by
  unfold valO
  rw [G_val, List.drop_of_length_le h]
  rfl
theorem val_at {xs : List Int} {i : Nat} (h : i < xs.length) : valO xs i =
    if at' xs i = 34 then strO xs i
    else if at' xs i = 123 then objO xs i
    else if at' xs i = 91 then arrO xs i
    else if at' xs i = 116 then lit [116, 114, 117, 101] (xs.drop i)
    else if at' xs i = 102 then lit [102, 97, 108, 115, 101] (xs.drop i)
    else if at' xs i = 110 then lit [110, 117, 108, 108] (xs.drop i)
    else if at' xs i == 45 || digit (at' xs i) then numO xs i
    else none := by
  unfold valO
  have hne : ¬ xs.drop i = [] := by
    intro e
    have := congrArg List.length e
    simp at this
    omega
  rw [G_val, val, if_neg hne, at_drop, Nat.add_zero, List.drop_drop]
  rfl

theorem valO_bd {xs : List Int} {i n : Nat} (h : valO xs i = some n) : 1 ≤ n ∧ i + n ≤ xs.length := by
  have := G_bd h
  rw [List.length_drop] at this
  omega
theorem strO_bd {xs : List Int} {i n : Nat} (h : strO xs i = some n) : i + n ≤ xs.length := by
  unfold strO at h
  obtain ⟨m, hm, rfl⟩ := map_some h
  have := ss_bd _ _ _ hm
  rw [List.length_drop] at this
  omega

end Go.Proofs.Qxb6602184a
