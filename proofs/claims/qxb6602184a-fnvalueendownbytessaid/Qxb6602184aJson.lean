/-
  The plain side of the JSON laws: lists of bytes, no Go. Every reader answers how many bytes it has read, or none.
-/
namespace Go.Proofs.Qxb6602184a

/-- The byte at j (0 where there is none): a name of its own, which a walk does not look into. -/
def at' (l : List Int) (j : Nat) : Int := l.getD j 0

def ws (c : Int) : Bool := c == 32 || c == 9 || c == 10 || c == 13
def digit (c : Int) : Bool := decide (48 ≤ c) && decide (c ≤ 57)
def hex (c : Int) : Bool := (decide (48 ≤ c) && decide (c ≤ 57)) || (decide (97 ≤ c) && decide (c ≤ 102)) || (decide (65 ≤ c) && decide (c ≤ 70))
def esc (c : Int) : Bool := c == 34 || c == 92 || c == 47 || c == 98 || c == 102 || c == 110 || c == 114 || c == 116

/-- How many bytes at the head fit p. -/
def run (p : Int → Bool) : List Int → Nat
  | [] => 0
  | c :: t => if p c then run p t + 1 else 0

def sp (l : List Int) : Nat := run ws l
def dg (l : List Int) : Nat := run digit l

/-- A string's bytes behind its opening quote, the closing one included. State 0: plain; 1: behind a backslash; 5, 4, 3, 2: that many less one hex digits are to come. -/
def ss : Nat → List Int → Option Nat
  | _, [] => none
  | 0, c :: t => if c = 34 then some 1 else if c < 32 then none else if c = 92 then (ss 1 t).map (· + 1) else (ss 0 t).map (· + 1)
  | 1, c :: t => if esc c then (ss 0 t).map (· + 1) else if c = 117 then (ss 5 t).map (· + 1) else none
  | 2, c :: t => if hex c then (ss 0 t).map (· + 1) else none
  | n + 3, c :: t => if hex c then (ss (n + 2) t).map (· + 1) else none

def lit (w l : List Int) : Option Nat := if l.take w.length = w then some w.length else none

def ip (l : List Int) : Option Nat := if l[0]? = some 48 then some 1 else if digit (at' l 0) && decide (0 < l.length) then some (1 + dg (l.drop 1)) else none
def frac (l : List Int) : Option Nat := if l[0]? = some 46 then (if dg (l.drop 1) = 0 then none else some (1 + dg (l.drop 1))) else some 0
def expS (l : List Int) : Nat := if l[1]? = some 43 ∨ l[1]? = some 45 then 2 else 1
def expo (l : List Int) : Option Nat := if l[0]? = some 101 ∨ l[0]? = some 69 then (if dg (l.drop (expS l)) = 0 then none else some (expS l + dg (l.drop (expS l)))) else some 0
def minus (l : List Int) : Nat := if l[0]? = some 45 then 1 else 0
def num (l : List Int) : Option Nat :=
  match ip (l.drop (minus l)) with
  | none => none
  | some a => match frac (l.drop (minus l + a)) with
    | none => none
    | some b => (expo (l.drop (minus l + a + b))).map (· + (minus l + a + b))

/-! The recogniser, over whatever answers its own calls ('r': 0 a value, 1 an array's elements, 2 an object's members). -/
def arr (r : Nat → List Int → Option Nat) (l : List Int) : Option Nat :=
  if l[1 + sp (l.drop 1)]? = some 93 then some (1 + sp (l.drop 1) + 1) else (r 1 (l.drop (1 + sp (l.drop 1)))).map (· + (1 + sp (l.drop 1)))
def obj (r : Nat → List Int → Option Nat) (l : List Int) : Option Nat :=
  if l[1 + sp (l.drop 1)]? = some 125 then some (1 + sp (l.drop 1) + 1) else (r 2 (l.drop (1 + sp (l.drop 1)))).map (· + (1 + sp (l.drop 1)))
/-- What follows an element or a member that has ended at e: the closing byte k, or a comma and more (t: 1 or 2). -/
def more (r : Nat → List Int → Option Nat) (t : Nat) (k : Int) (l : List Int) (e : Nat) : Option Nat :=
  if l[e + sp (l.drop e)]? = some k then some (e + sp (l.drop e) + 1)
  else if l[e + sp (l.drop e)]? = some 44 then
    (r t (l.drop (e + sp (l.drop e) + 1 + sp (l.drop (e + sp (l.drop e) + 1))))).map (· + (e + sp (l.drop e) + 1 + sp (l.drop (e + sp (l.drop e) + 1))))
  else none
def els (r : Nat → List Int → Option Nat) (l : List Int) : Option Nat := (r 0 l).bind (more r 1 93 l)
/-- Where a member's value begins: behind its name, the colon and the blanks. -/
def key (l : List Int) : Option Nat :=
  if l[0]? = some 34 then
    (ss 0 (l.drop 1)).bind fun e =>
      if l[e + 1 + sp (l.drop (e + 1))]? = some 58 then some (e + 1 + sp (l.drop (e + 1)) + 1 + sp (l.drop (e + 1 + sp (l.drop (e + 1)) + 1))) else none
  else none
def mem (r : Nat → List Int → Option Nat) (l : List Int) : Option Nat :=
  (key l).bind fun v => (r 0 (l.drop v)).bind fun e => more r 2 125 l (v + e)
def val (r : Nat → List Int → Option Nat) (l : List Int) : Option Nat :=
  if l = [] then none
  else if at' l 0 = 34 then (ss 0 (l.drop 1)).map (· + 1)
  else if at' l 0 = 123 then obj r l
  else if at' l 0 = 91 then arr r l
  else if at' l 0 = 116 then lit [116, 114, 117, 101] l
  else if at' l 0 = 102 then lit [102, 97, 108, 115, 101] l
  else if at' l 0 = 110 then lit [110, 117, 108, 108] l
  else if at' l 0 == 45 || digit (at' l 0) then num l
  else none
def step (r : Nat → List Int → Option Nat) (t : Nat) (l : List Int) : Option Nat :=
  if t = 0 then val r l else if t = 1 then els r l else mem r l
def pj : Nat → Nat → List Int → Option Nat
  | 0, _, _ => none
  | f + 1, t, l => step (pj f) t l

/-! ### Bounds -/
theorem run_le (p : Int → Bool) (l : List Int) : run p l ≤ l.length := by
  induction l with
  | nil => exact Nat.le_refl _
  | cons c t ih => simp only [run]; split <;> simp <;> omega
theorem sp_le (l : List Int) : sp l ≤ l.length := run_le ws l
theorem dg_le (l : List Int) : dg l ≤ l.length := run_le digit l

theorem map_some {o : Option Nat} {k n : Nat} (h : o.map (· + k) = some n) : ∃ m, o = some m ∧ n = m + k := by
  cases o with
  | none => cases h
  | some m => exact ⟨m, rfl, by simpa using h.symm⟩

theorem ss_bd (l : List Int) : ∀ q n, ss q l = some n → 1 ≤ n ∧ n ≤ l.length := by
  induction l with
  | nil => intro q n h; simp [ss] at h
  | cons c t ih =>
    intro q n h
    have fin : ∀ q', (ss q' t).map (· + 1) = some n → 1 ≤ n ∧ n ≤ (c :: t).length := by
      intro q' h'
      obtain ⟨m, hm, rfl⟩ := map_some h'
      have := ih q' m hm
      simp; omega
    match q, h with
    | 0, h =>
      simp only [ss] at h
      split at h
      · cases h; simp
      · split at h
        · cases h
        · split at h
          · exact fin _ h
          · exact fin _ h
    | 1, h =>
      simp only [ss] at h
      split at h
      · exact fin _ h
      · split at h
        · exact fin _ h
        · cases h
    | 2, h =>
      simp only [ss] at h
      split at h
      · exact fin _ h
      · cases h
    | k + 3, h =>
      simp only [ss] at h
      split at h
      · exact fin _ h
      · cases h

theorem lt_of_get {l : List Int} {m : Nat} {c : Int} (h : l[m]? = some c) : m < l.length := by
  rcases Nat.lt_or_ge m l.length with h' | h'
  · exact h'
  · rw [List.getElem?_eq_none h'] at h; cases h

theorem lit_bd {w l : List Int} {n : Nat} (h : lit w l = some n) : n = w.length ∧ n ≤ l.length := by
  unfold lit at h
  split at h
  · rename_i h1
    cases h
    refine ⟨rfl, ?_⟩
    have := congrArg List.length h1
    simp at this
    omega
  · cases h

theorem ip_bd {l : List Int} {n : Nat} (h : ip l = some n) : 1 ≤ n ∧ n ≤ l.length := by
  unfold ip at h
  split at h
  · rename_i h1
    cases h
    have := lt_of_get h1
    omega
  · split at h
    · rename_i h1
      cases h
      simp at h1
      have := dg_le (l.drop 1)
      simp only [List.length_drop] at this
      omega
    · cases h

theorem frac_bd {l : List Int} {n : Nat} (h : frac l = some n) : n ≤ l.length := by
  unfold frac at h
  split at h
  · rename_i h1
    split at h
    · cases h
    · cases h
      have := lt_of_get h1
      have := dg_le (l.drop 1)
      simp only [List.length_drop] at this
      omega
  · cases h; omega

theorem expo_bd {l : List Int} {n : Nat} (h : expo l = some n) : n ≤ l.length := by
  unfold expo at h
  split at h
  · rename_i h1
    have h0 : 0 < l.length := by rcases h1 with h1 | h1 <;> exact lt_of_get h1
    split at h
    · cases h
    · cases h
      have := dg_le (l.drop (expS l))
      simp only [List.length_drop] at this
      omega
  · cases h; omega

theorem minus_bd (l : List Int) : minus l ≤ l.length := by
  unfold minus
  split
  · rename_i h; have := lt_of_get h; omega
  · omega

theorem num_bd {l : List Int} {n : Nat} (h : num l = some n) : 1 ≤ n ∧ n ≤ l.length := by
  unfold num at h
  have h0 := minus_bd l
  split at h
  · cases h
  · rename_i a ha
    have h1 := ip_bd ha
    simp only [List.length_drop] at h1
    split at h
    · cases h
    · rename_i b hb
      have h2 := frac_bd hb
      obtain ⟨c, hc, rfl⟩ := map_some h
      have h3 := expo_bd hc
      simp only [List.length_drop] at h2 h3
      omega

/-- A reader of the family stays within its bytes. -/
def Fair (r : Nat → List Int → Option Nat) : Prop := ∀ t l n, r t l = some n → 1 ≤ n ∧ n ≤ l.length

theorem more_bd {r : Nat → List Int → Option Nat} (hr : Fair r) {t : Nat} {k : Int} {l : List Int} {e n : Nat} (h : more r t k l e = some n) : e < n ∧ n ≤ l.length := by
  unfold more at h
  split at h
  · rename_i h1
    cases h
    have := lt_of_get h1
    omega
  · split at h
    · rename_i h1
      have := lt_of_get h1
      obtain ⟨m, hm, rfl⟩ := map_some h
      have := hr _ _ _ hm
      simp only [List.length_drop] at this
      omega
    · cases h

theorem key_bd {l : List Int} {v : Nat} (h : key l = some v) : 1 ≤ v ∧ v ≤ l.length := by
  unfold key at h
  split at h
  · obtain ⟨e, _, h⟩ := Option.bind_eq_some_iff.1 h
    split at h
    · rename_i h1
      cases h
      have := lt_of_get h1
      have := sp_le (l.drop (e + 1 + sp (l.drop (e + 1)) + 1))
      simp only [List.length_drop] at this
      omega
    · cases h
  · cases h

theorem step_fair {r : Nat → List Int → Option Nat} (hr : Fair r) : Fair (step r) := by
  intro t l n h
  unfold step at h
  split at h
  · unfold val at h
    split at h
    · cases h
    rename_i hne
    have hpos : 0 < l.length := List.length_pos_iff.2 hne
    split at h
    · obtain ⟨m, hm, rfl⟩ := map_some h
      have := ss_bd _ _ _ hm
      simp only [List.length_drop] at this
      omega
    have box : ∀ (k : Int) (t : Nat), (if l[1 + sp (l.drop 1)]? = some k then some (1 + sp (l.drop 1) + 1) else (r t (l.drop (1 + sp (l.drop 1)))).map (· + (1 + sp (l.drop 1)))) = some n → 1 ≤ n ∧ n ≤ l.length := by
      intro k t h
      split at h
      · rename_i h1
        cases h
        have := lt_of_get h1
        omega
      · obtain ⟨m, hm, rfl⟩ := map_some h
        have := hr _ _ _ hm
        simp only [List.length_drop] at this
        omega
    split at h
    · exact box _ _ h
    split at h
    · exact box _ _ h
    split at h
    · have := lit_bd h; simp at this; omega
    split at h
    · have := lit_bd h; simp at this; omega
    split at h
    · have := lit_bd h; simp at this; omega
    split at h
    · exact num_bd h
    · cases h
  · split at h
    · obtain ⟨e, he, h⟩ := Option.bind_eq_some_iff.1 h
      have h1 := hr _ _ _ he
      have := more_bd hr h
      omega
    · obtain ⟨v, hv, h⟩ := Option.bind_eq_some_iff.1 h
      obtain ⟨e, he, h⟩ := Option.bind_eq_some_iff.1 h
      have h0 := key_bd hv
      have h1 := hr _ _ _ he
      have := more_bd hr h
      omega

theorem pj_fair (f : Nat) : Fair (pj f) := by
  induction f with
  | zero => intro t l n h; cases h
  | succ f ih => exact step_fair ih

/-! ### One function without fuel -/
def need (t : Nat) (l : List Int) : Nat := 2 * l.length + (if t = 0 then 1 else 2)

theorem more_congr {r r' : Nat → List Int → Option Nat} {t : Nat} {k : Int} {l : List Int} {e : Nat} (h : ∀ l', l'.length < l.length → r t l' = r' t l') : more r t k l e = more r' t k l e := by
  unfold more
  split
  · rfl
  · split
    · rename_i h1
      have := lt_of_get h1
      rw [h _ (by simp; omega)]
    · rfl

theorem step_congr {r r' : Nat → List Int → Option Nat} {t : Nat} {l : List Int} (h : ∀ t' l', need t' l' < need t l → r t' l' = r' t' l') : step r t l = step r' t l := by
  unfold step
  split
  · rename_i ht
    subst ht
    unfold val
    split
    · rfl
    rename_i hne
    have hpos : 0 < l.length := List.length_pos_iff.2 hne
    have e1 : r 1 (l.drop (1 + sp (l.drop 1))) = r' 1 (l.drop (1 + sp (l.drop 1))) := h _ _ (by simp [need]; omega)
    have e2 : r 2 (l.drop (1 + sp (l.drop 1))) = r' 2 (l.drop (1 + sp (l.drop 1))) := h _ _ (by simp [need]; omega)
    unfold obj arr
    rw [e1, e2]
  · rename_i ht
    split
    · rename_i ht1
      subst ht1
      have e0 : r 0 l = r' 0 l := h _ _ (by simp [need])
      unfold els
      rw [e0]
      congr 1
      funext e
      exact more_congr fun l' hl => h _ _ (by simp [need]; omega)
    · have hne : ∀ l' : List Int, l'.length ≤ l.length → r 0 l' = r' 0 l' := fun l' hl => h _ _ (by simp [need, ht]; omega)
      have hm : ∀ (l' : List Int), l'.length < l.length → r 2 l' = r' 2 l' := fun l' hl => h _ _ (by simp [need, ht]; omega)
      unfold mem
      congr 1
      funext v
      rw [hne _ (by simp)]
      congr 1
      funext e
      exact more_congr hm

theorem pj_stab (f : Nat) : ∀ f' t l, need t l ≤ f → need t l ≤ f' → pj f t l = pj f' t l := by
  induction f with
  | zero => intro f' t l h; exact absurd h (by unfold need; split <;> omega)
  | succ f ih =>
    intro f' t l h h'
    obtain ⟨g, rfl⟩ : ∃ g, f' = g + 1 := ⟨f' - 1, by unfold need at h'; split at h' <;> omega⟩
    exact step_congr fun t' l' hlt => ih g t' l' (by omega) (by omega)

/-- The recogniser. -/
def G (t : Nat) (l : List Int) : Option Nat := pj (need t l) t l

theorem G_of {f t : Nat} {l : List Int} (h : need t l ≤ f) : pj f t l = G t l := pj_stab f _ t l h (Nat.le_refl _)

theorem G_eq (t : Nat) (l : List Int) : G t l = step G t l := by
  have h1 : pj (need t l + 1) t l = G t l := G_of (by omega)
  rw [← h1]
  exact step_congr fun t' l' hlt => G_of (by omega)

theorem G_bd {t : Nat} {l : List Int} {n : Nat} (h : G t l = some n) : 1 ≤ n ∧ n ≤ l.length := pj_fair _ t l n h
theorem G_fair : Fair G := fun _ _ _ h => G_bd h

end Go.Proofs.Qxb6602184a
