/-
  The walk of jsonLit.
-/
import Derived.Test.Qxb6602184aNumber
namespace Go.Proofs.Qxb6602184a
open Go.RowKit

/-- The bytes of a string. -/
def bytesOf (s : ByteArray) : List Int := s.data.toList.map fun b => (b.toNat : Int)

theorem bytesOf_length (s : ByteArray) : (bytesOf s).length = s.size := by
  unfold bytesOf
  rw [List.length_map, Array.length_toList]
  rfl
theorem bytesOf_at (s : ByteArray) (k : Nat) (h : k < s.size) : at' (bytesOf s) k = ((s[k]).toNat : Int) := by
  have h2 : k < s.data.size := h
  unfold at' bytesOf
  simp only [List.getD, List.getElem?_map]
  have h3 : s.data.toList[k]? = some (s[k]) := by rw [Array.getElem?_toList, getElem?_pos s.data k h2]; rfl
  rw [h3]
  rfl

theorem lit_yes {xs W : List Int} {i : Nat} (hl : i + W.length ≤ xs.length) (h : ∀ m, m < W.length → at' xs (i + m) = at' W m) : lit W (xs.drop i) = some W.length := by
  unfold lit
  rw [if_pos]
  apply List.ext_getElem?
  intro m
  by_cases hm : m < W.length
  · rw [List.getElem?_take, if_pos hm, get_drop]
    have h1 := h m hm
    rw [get_iff.2 ⟨by omega, h1⟩]
    exact (get_iff.2 ⟨hm, rfl⟩).symm
  · rw [List.getElem?_take, if_neg hm, List.getElem?_eq_none (by omega)]
theorem lit_short {xs W : List Int} {i : Nat} (hi : i ≤ xs.length) (hl : ¬ i + W.length ≤ xs.length) : lit W (xs.drop i) = none := by
  unfold lit
  rw [if_neg]
  intro h
  have := congrArg List.length h
  simp at this
  omega
theorem lit_miss {xs W : List Int} {i m : Nat} (hm : m < W.length) (h : ¬ at' xs (i + m) = at' W m) : lit W (xs.drop i) = none := by
  unfold lit
  rw [if_neg]
  intro h1
  have h2 : ((xs.drop i).take W.length)[m]? = W[m]? := by rw [h1]
  rw [List.getElem?_take, if_pos hm, get_drop, get_iff.2 ⟨hm, rfl⟩] at h2
  exact h (get_iff.1 h2).2

set_option maxHeartbeats 800000 in
set_option maxRecDepth 10000 in
theorem jsonLit_any (a : Option Addr) (len cap : Nat) (xs : List Int) (i : Nat) (s : ByteArray) (w : World) (hl : len ≤ 1048576) (hi : i < len) (hs : s.size ≤ 1000) (h : Holds w a len xs) :
    Calls Try.prog 30 #[.slice a len cap, .int .i64 i, .string s] w fun e w' => e = .returned (.tuple #[.int .i64 (endN i (lit (bytesOf s) (xs.drop i)) : Nat), .bool (okB (lit (bytesOf s) (xs.drop i)))]) ∧ Below w.heap.size w w' := by
  have hxl := h.1
  have hTl := bytesOf_length s
  have fin0 : Hid (∀ o, o = none → ((endN i o : Nat) : Int) = 0 ∧ okB o = false) := by intro o ho; subst ho; exact ⟨rfl, rfl⟩
  have fin1 : Hid (∀ o n, o = some n → ((endN i o : Nat) : Int) = i + n ∧ okB o = true) := by intro o n ho; subst ho; exact ⟨by simp [endN], rfl⟩
  have g1 := lit_yes (xs := xs) (W := bytesOf s) (i := i)
  have g2 := lit_short (xs := xs) (W := bytesOf s) (i := i) (by omega)
  have g3 := fun m => lit_miss (xs := xs) (W := bytesOf s) (i := i) (m := m)
  rw [hTl, hxl] at g1 g2
  rw [hTl] at g3
  generalize lit (bytesOf s) (xs.drop i) = O at *
  replace g1 := hide g1
  replace g2 := hide g2
  replace g3 := hide g3
  obtain ⟨b, o, rfl, hb, hc⟩ := h.cells (by omega)
  replace hc := hide hc
  replace h := hide h
  replace hxl := hide hxl
  replace hTl := hide hTl
  by_cases hsz : i + s.size ≤ len
  case neg =>
    have hn := hide (unhide fin0 O (unhide g2 hsz))
    go_enter Try.func30, Try.ntmps30
    go_wp2_with fail
    go_ret2
    exact ⟨ret_pair (unhide hn).1.symm (unhide hn).2.symm, Below.refl _ _⟩
  go_enter Try.func30, Try.ntmps30
  go_wp2_with fail
  go_loopw [8] (fun v wr => ∃ k : Nat, k ≤ s.size ∧ v = .int .i64 k ∧ Hid (∀ m, m < k → at' xs (i + m) = at' (bytesOf s) m) ∧ Below w.heap.size w wr) (fun v _ => s.size - (intOf v).toNat)
  case atStart => exact ⟨0, by omega, rfl, fun m hm => absurd hm (by omega), Below.refl _ _⟩
  case round =>
    obtain ⟨k, hk, rfl, hall, hbel⟩ := hrel
    by_cases hlt : k < s.size
    · have hck := (hbel.cell (p := ⟨b, o + (i + k), none⟩) hb).trans (unhide hc (i + k) (by omega))
      have hat := bytesOf_at s k hlt
      have q1 : (0 : Int) ≤ (i : Int) + k := by omega
      have q2 : (i : Int) + k < (len : Int) := by omega
      have q3 : (0 : Int) ≤ (k : Int) := by omega
      have q4 : (k : Int) < (s.size : Int) := by omega
      cases hne : (at' xs (i + k) != ((s[k].toNat : Nat) : Int))
      · have hall2 : Hid (∀ m, m < k + 1 → at' xs (i + m) = at' (bytesOf s) m) := by
          intro m hm
          rcases Nat.lt_or_ge m k with h3 | h3
          · exact unhide hall m h3
          · obtain rfl : m = k := by omega
            rw [hat]
            simpa using hne
        clear hat
        go_wp2_with fail
        go_quiet (fail)
        go_wp2_with fail
        go_roundw
        case rel => exact ⟨k + 1, by omega, by go_num, hall2, below_drewN hbel _⟩
        case measure => simp [intOf]; omega
      · have hn := hide (unhide fin0 O (unhide g3 k hlt (by rw [hat]; simpa using hne)))
        clear hat
        go_wp2_with fail
        go_quiet (fail)
        go_wp2_with fail
        go_ret2
        exact ⟨ret_pair (unhide hn).1.symm (unhide hn).2.symm, below_drewN hbel _⟩
    · have hn := hide (unhide fin1 O _ (unhide g1 hsz (fun m hm => unhide hall m (by omega))))
      go_wp2_with fail
      go_ret2
      exact ⟨ret_pair (by rw [(unhide hn).1]) (unhide hn).2.symm, hbel⟩

end Go.Proofs.Qxb6602184a
