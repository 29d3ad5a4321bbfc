/-
  The plain side of readText: lists of bytes, no Go.
-/
import Derived.Test.Qxb6601794aMatch
namespace Go.Proofs.Qxb6601794a

def blank (c : Int) : Bool := c == 32 || c == 9 || c == 10 || c == 11 || c == 12 || c == 13

/-- readText: what is left, and whether all was read. -/
def rt : List Int → List Int → List Int × Bool
  | [], s => (s, true)
  | c :: t, s => if blank c then rt t (s.dropWhile blank) else if s.head? = some c then rt t s.tail else (s, false)

theorem dropWhile_twice (p : Int → Bool) (s : List Int) : (s.dropWhile p).dropWhile p = s.dropWhile p := by
  induction s with
  | nil => rfl
  | cons c s ih =>
    by_cases h : p c = true
    · simp [h, ih]
    · simp [h]

theorem rt_blank {c : Int} {t s : List Int} (h : blank c = true) : rt (c :: t) s = rt t (s.dropWhile blank) := by rw [rt, if_pos h]
theorem rt_hit {c : Int} {t s : List Int} (h : blank c = false) : rt (c :: t) (c :: s) = rt t s := by simp [rt, h]
theorem rt_miss {c d : Int} {t s : List Int} (h : blank c = false) (hd : (d == c) = false) : rt (c :: t) (d :: s) = (d :: s, false) := by
  have : ¬ d = c := by simpa using hd
  simp [rt, h, this]
theorem rt_out {c : Int} {t : List Int} (h : blank c = false) : rt (c :: t) [] = ([], false) := by simp [rt, h]

/-- Does the text end in a blank? -/
def lastB (t : List Int) : Bool := (t.getLast?.map blank).getD false

theorem lastB_one (c : Int) : lastB [c] = blank c := rfl
theorem lastB_cons (c d : Int) (t : List Int) : lastB (c :: d :: t) = lastB (d :: t) := by simp [lastB, List.getLast?_cons]

def fin (t tail : List Int) : List Int := if lastB t then tail.dropWhile blank else tail

/-- A text reads itself. -/
theorem rt_own (tail : List Int) (t : List Int) : rt t (t ++ tail) = (fin t tail, true) ∧ rt t ((t ++ tail).dropWhile blank) = (if t = [] then tail.dropWhile blank else fin t tail, true) := by
  induction t with
  | nil => exact ⟨rfl, rfl⟩
  | cons c t ih =>
    by_cases h : blank c = true
    · have e : (c :: t ++ tail).dropWhile blank = (t ++ tail).dropWhile blank := by simp [h]
      have hf : (if t = [] then tail.dropWhile blank else fin t tail) = fin (c :: t) tail := by
        cases t with
        | nil => simp [fin, lastB_one, h]
        | cons d t => simp [fin, lastB_cons]
      have key : rt t ((t ++ tail).dropWhile blank) = (fin (c :: t) tail, true) := by rw [ih.2, hf]
      refine ⟨?_, ?_⟩
      · rw [rt_blank h, e, key]
      · rw [rt_blank h, e, dropWhile_twice, key]; simp
    · have h' : blank c = false := by simpa using h
      have e : (c :: t ++ tail).dropWhile blank = c :: t ++ tail := by simp [h']
      have hf : fin t tail = fin (c :: t) tail := by
        cases t with
        | nil => simp [fin, lastB_one, h', show lastB [] = false from rfl]
        | cons d t => simp [fin, lastB_cons]
      have key : rt (c :: t) (c :: t ++ tail) = (fin (c :: t) tail, true) := by
        rw [List.cons_append, rt_hit h', ih.1, hf]
      refine ⟨key, ?_⟩
      rw [e, key]; simp

theorem lastB_at (t : List Int) (h : 0 < t.length) : lastB t = blank (at' t (t.length - 1)) := by
  unfold lastB at'
  rw [List.getLast?_eq_getElem?, List.getD]
  have : t.length - 1 < t.length := by omega
  simp [this]

/-- The bytes of a string. -/
def bytesOf (s : ByteArray) : List Int := s.data.toList.map fun b => (b.toNat : Int)

theorem bytesOf_length (s : ByteArray) : (bytesOf s).length = s.size := by
  unfold bytesOf
  rw [List.length_map, Array.length_toList]
  rfl
theorem bytesOf_at (s : ByteArray) (k : Nat) (h : k < s.size) : at' (bytesOf s) k = ((s[k]).toNat : Int) := by
  have h2 : k < s.data.size := h
  unfold at' bytesOf
  simp only [List.getD, List.getElem?_map]
  have h3 : s.data.toList[k]? = some (s[k]) := by rw [Array.getElem?_toList, getElem?_pos s.data k h2]; rfl
  rw [h3]
  rfl

theorem at_bd {xs : List Int} (h : ∀ c ∈ xs, 0 ≤ c ∧ c ≤ 255) {k : Nat} (hk : k < xs.length) : 0 ≤ at' xs k ∧ at' xs k ≤ 255 := by
  unfold at'
  rw [getD_get hk]
  exact h _ (List.getElem_mem hk)

end Go.Proofs.Qxb6601794a
