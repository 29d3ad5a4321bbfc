/-
  The walks of jsonDigits, isHex, jsonString, jsonNumber, jsonLit.
-/
import Derived.Test.Qxb6602184aSpace
import Derived.Test.Qxb6602184aOwn
namespace Go.Proofs.Qxb6602184a
open Go.RowKit

/-- What a Go reader answers: the end, and whether it has read. -/
def endN (i : Nat) (o : Option Nat) : Nat := match o with | none => 0 | some n => i + n
def okB (o : Option Nat) : Bool := o.isSome

theorem ret_pair {a b : Int} {p q : Bool} (h : a = b) (g : p = q) : Ending.returned (.tuple #[.int .i64 a, .bool p]) = Ending.returned (.tuple #[.int .i64 b, .bool q]) := by rw [h, g]

/-- Where the digits from k on end. -/
def dgE (xs : List Int) (k : Nat) : Nat := k + dg (xs.drop k)

set_option maxHeartbeats 400000 in
theorem jsonDigits_any (a : Option Addr) (len cap : Nat) (xs : List Int) (k : Nat) (w : World) (hl : len ≤ 1048576) (hk : k ≤ len) (h : Holds w a len xs) :
    Calls Try.prog 34 #[.slice a len cap, .int .i64 k] w fun e w' => e = .returned (.int .i64 (dgE xs k : Nat)) ∧ w = w' := by
  have hxl := hide h.1
  replace h := hide h
  go_enter Try.func34, Try.ntmps34
  go_wp2_with fail
  go_loop [1] (fun i => ∃ j : Nat, j ≤ len ∧ i = .int .i64 j ∧ Hid (j + dg (xs.drop j) = dgE xs k)) (fun i => len - (intOf i).toNat)
  case atStart => exact ⟨k, hk, rfl, rfl⟩
  case round =>
    obtain ⟨j, hj, rfl, he⟩ := hrel
    by_cases hlt : j < len
    · obtain ⟨b, o, rfl, hb, hc⟩ := (unhide h).2.2.2 j hlt
      have hd : Hid (xs.drop j = at' xs j :: xs.drop (j + 1)) := drop_cons (by rw [unhide hxl]; exact hlt)
      generalize hcc : at' xs j = c at *
      have hi : (j : Int) < (len : Int) := by omega
      have hstep : Hid (digit c = true → j + 1 + dg (xs.drop (j + 1)) = dgE xs k) := by
        intro hw
        rw [← unhide he, unhide hd, dg_cons, if_pos hw]
        omega
      have hstop : Hid (digit c = false → dgE xs k = j) := by
        intro hw
        rw [← unhide he, unhide hd, dg_cons, if_neg (by simp [hw])]
        omega
      clear hcc
      by_cases h1 : 48 ≤ c
      · by_cases h2 : c ≤ 57
        · have hf := hide (unhide hstep (by simp [digit, h1, h2]))
          go_wp2_with fail
          go_round
          case rel => exact ⟨j + 1, by omega, by go_num, hf⟩
          case measure => simp [intOf]; omega
        · have hf := hide (unhide hstop (by simp [digit]; omega))
          go_wp2_with fail
          go_ret
          exact ⟨by rw [unhide hf]; rfl, rfl⟩
      · have hf := hide (unhide hstop (by simp [digit]; omega))
        go_wp2_with fail
        go_ret
        exact ⟨by rw [unhide hf]; rfl, rfl⟩
    · have hf : Hid (dgE xs k = j) := by
        show _ = _
        rw [← unhide he, List.drop_of_length_le (l := xs) (by rw [unhide hxl]; omega)]
        rfl
      go_wp2_with fail
      go_ret
      exact ⟨by rw [unhide hf]; rfl, rfl⟩

theorem ret_bool {a b : Bool} (h : a = b) : Ending.returned (.bool a) = Ending.returned (.bool b) := by rw [h]

theorem isHex_any (c : Int) (w : World) : Calls Try.prog 32 #[.int .u8 c] w fun e w' => e = .returned (.bool (hex c)) ∧ w = w' := by
  go_enter Try.func32, Try.ntmps32
  go_wp2_with fail
  all_goals (go_ret; exact ⟨ret_bool (by rw [Bool.eq_iff_iff]; simp [hex]; omega), rfl⟩)

theorem ss_hex_yes (n : Nat) : ∀ l : List Int, n + 1 ≤ l.length → (∀ m, m ≤ n → hex (at' l m) = true) → ss (n + 2) l = (ss 0 (l.drop (n + 1))).map (· + (n + 1)) := by
  induction n with
  | zero =>
    intro l hl h
    cases l with
    | nil => simp at hl
    | cons c t =>
      have hc : hex c = true := h 0 (Nat.le_refl _)
      simp [ss, hc]
  | succ n ih =>
    intro l hl h
    cases l with
    | nil => simp at hl
    | cons c t =>
      have hc : hex c = true := h 0 (by omega)
      have h2 := ih t (by simpa using hl) (fun m hm => by
        have := h (m + 1) (by omega)
        simpa [at', List.getD] using this)
      simp only [ss, hc, if_true, List.drop_succ_cons]
      rw [h2, map_map]

theorem ss_hex_no (n : Nat) : ∀ (l : List Int) (m : Nat), m ≤ n → (m < l.length → hex (at' l m) = false) → ss (n + 2) l = none := by
  induction n with
  | zero =>
    intro l m hm h
    obtain rfl : m = 0 := by omega
    cases l with
    | nil => rfl
    | cons c t =>
      have hc : hex c = false := h (by simp)
      simp [ss, hc]
  | succ n ih =>
    intro l m hm h
    cases l with
    | nil => rfl
    | cons c t =>
      by_cases hc : hex c = true
      · cases m with
        | zero =>
          have : hex c = false := h (by simp)
          rw [hc] at this
          cases this
        | succ m =>
          have h2 := ih t m (by omega) (fun hlt => by
            have := h (by simpa using hlt)
            simpa [at', List.getD] using this)
          simp only [ss, hc, if_true]
          rw [h2]
          rfl
      · simp [ss, hc]

/-- jsonString's state at j: what the string from i on comes to. -/
def Str (xs : List Int) (i j : Nat) (o : Option Nat) : Prop := i < j ∧ j ≤ xs.length ∧ (ss 0 (xs.drop j)).map (· + (j - i)) = o

theorem str_out {xs : List Int} {i j : Nat} {o : Option Nat} (h : Str xs i j o) (hj : xs.length ≤ j) : o = none := by
  have := h.2.2
  rw [List.drop_of_length_le hj] at this
  exact this.symm
theorem str_quote {xs : List Int} {i j : Nat} {o : Option Nat} (h : Str xs i j o) (hj : j < xs.length) (hc : at' xs j = 34) : o = some (j + 1 - i) := by
  have h1 := h.2.2
  rw [drop_cons hj, ss, if_pos hc] at h1
  rw [← h1]
  have := h.1
  simp
  omega
theorem str_ctl {xs : List Int} {i j : Nat} {o : Option Nat} (h : Str xs i j o) (hj : j < xs.length) (hc : ¬ at' xs j = 34) (hc2 : at' xs j < 32) : o = none := by
  have h1 := h.2.2
  rw [drop_cons hj, ss, if_neg hc, if_pos hc2] at h1
  exact h1.symm
theorem str_next {xs : List Int} {i j : Nat} {o : Option Nat} (h : Str xs i j o) (hj : j < xs.length) (hc : ¬ at' xs j = 34) (hc2 : ¬ at' xs j < 32) (hc3 : ¬ at' xs j = 92) : Str xs i (j + 1) o := by
  have h0 := h.1
  have h1 := h.2.2
  rw [drop_cons hj, ss, if_neg hc, if_neg hc2, if_neg hc3, map_map] at h1
  refine ⟨by omega, by omega, ?_⟩
  rw [← h1]
  congr 1
  funext n
  omega
/-- Behind a backslash. -/
theorem str_back {xs : List Int} {i j : Nat} {o : Option Nat} (h : Str xs i j o) (hj : j < xs.length) (hc : at' xs j = 92) : (ss 1 (xs.drop (j + 1))).map (· + (j + 1 - i)) = o := by
  have h0 := h.1
  have h1 := h.2.2
  rw [drop_cons hj, ss, if_neg (by omega), if_neg (by omega), if_pos hc, map_map] at h1
  rw [← h1]
  congr 1
  funext n
  omega
theorem str_last {xs : List Int} {i j : Nat} {o : Option Nat} (h : Str xs i j o) (hj : j + 1 = xs.length) (hc : at' xs j = 92) : o = none := by
  have h1 := str_back h (by omega) hc
  rw [List.drop_of_length_le (by omega)] at h1
  exact h1.symm
theorem str_esc {xs : List Int} {i j : Nat} {o : Option Nat} (h : Str xs i j o) (hj : j + 1 < xs.length) (hc : at' xs j = 92) (he : esc (at' xs (j + 1)) = true) : Str xs i (j + 2) o := by
  have h0 := h.1
  have h1 := str_back h (by omega) hc
  rw [drop_cons hj, ss, if_pos he, map_map] at h1
  refine ⟨by omega, by omega, ?_⟩
  rw [← h1]
  congr 1
  funext n
  omega
theorem str_bad {xs : List Int} {i j : Nat} {o : Option Nat} (h : Str xs i j o) (hj : j + 1 < xs.length) (hc : at' xs j = 92) (he : esc (at' xs (j + 1)) = false) (hu : ¬ at' xs (j + 1) = 117) : o = none := by
  have h1 := str_back h (by omega) hc
  rw [drop_cons hj, ss, if_neg (by simp [he]), if_neg hu] at h1
  exact h1.symm
theorem str_u {xs : List Int} {i j : Nat} {o : Option Nat} (h : Str xs i j o) (hj : j + 1 < xs.length) (hc : at' xs j = 92) (hu : at' xs (j + 1) = 117) : (ss 5 (xs.drop (j + 2))).map (· + (j + 2 - i)) = o := by
  have h0 := h.1
  have h1 := str_back h (by omega) hc
  have he : esc (at' xs (j + 1)) = false := by rw [hu]; decide
  rw [drop_cons hj, ss, if_neg (by simp [he]), if_pos hu, map_map] at h1
  rw [← h1]
  congr 1
  funext n
  omega
theorem str_hex {xs : List Int} {i j : Nat} {o : Option Nat} (h : Str xs i j o) (hj : j + 1 < xs.length) (hc : at' xs j = 92) (hu : at' xs (j + 1) = 117) (hl : j + 6 ≤ xs.length) (hx : ∀ m, j + 2 ≤ m → m < j + 6 → hex (at' xs m) = true) : Str xs i (j + 6) o := by
  have h0 := h.1
  have h1 := str_u h hj hc hu
  rw [ss_hex_yes 3 _ (by rw [List.length_drop]; omega) (fun m hm => by rw [at_drop]; exact hx _ (by omega) (by omega)), map_map, List.drop_drop] at h1
  refine ⟨by omega, hl, ?_⟩
  rw [← h1]
  congr 1
  funext n
  omega
theorem str_nohex {xs : List Int} {i j m : Nat} {o : Option Nat} (h : Str xs i j o) (hj : j + 1 < xs.length) (hc : at' xs j = 92) (hu : at' xs (j + 1) = 117) (hm : j + 2 ≤ m) (hm2 : m < j + 6) (hx : m < xs.length → hex (at' xs m) = false) : o = none := by
  have h1 := str_u h hj hc hu
  rw [ss_hex_no 3 _ (m - (j + 2)) (by omega) (fun hlt => by
    rw [at_drop, show j + 2 + (m - (j + 2)) = m from by omega]
    exact hx (by rw [List.length_drop] at hlt; omega))] at h1
  exact h1.symm

/-- The whole string from i on. -/
def strO (xs : List Int) (i : Nat) : Option Nat := (ss 0 (xs.drop (i + 1))).map (· + 1)

theorem str_start {xs : List Int} {i : Nat} (hi : i < xs.length) : Str xs i (i + 1) (strO xs i) := ⟨by omega, by omega, by unfold strO; congr 1; funext n; omega⟩

set_option maxHeartbeats 1600000 in
set_option maxRecDepth 10000 in
theorem jsonString_any (a : Option Addr) (len cap : Nat) (xs : List Int) (i : Nat) (w : World) (hl : len ≤ 1048576) (hi : i < len) (h : Holds w a len xs) :
    Calls Try.prog 27 #[.slice a len cap, .int .i64 i] w fun e w' => e = .returned (.tuple #[.int .i64 (endN i (strO xs i) : Nat), .bool (okB (strO xs i))]) ∧ w = w' := by
  have hxl := h.1
  have hst := str_start (xs := xs) (i := i) (by omega)
  have fin0 : ∀ o, o = none → ((endN i o : Nat) : Int) = 0 ∧ okB o = false := by intro o ho; subst ho; exact ⟨rfl, rfl⟩
  have fin1 : ∀ o n, o = some n → ((endN i o : Nat) : Int) = i + n ∧ okB o = true := by intro o n ho; subst ho; exact ⟨by simp [endN], rfl⟩
  replace fin0 := hide fin0
  replace fin1 := hide fin1
  generalize strO xs i = O at *
  replace hst := hide hst
  replace hxl := hide hxl
  replace h := hide h
  go_enter Try.func27, Try.ntmps27
  go_wp2_with fail
  go_loop [1] (fun v => ∃ j : Nat, i < j ∧ j ≤ len ∧ v = .int .i64 j ∧ Hid (Str xs i j O)) (fun v => len - (intOf v).toNat)
  case atStart => exact ⟨i + 1, by omega, by omega, by go_num, hst⟩
  case round =>
    obtain ⟨j, hij, hjl, rfl, hS⟩ := hrel
    clear hst
    by_cases hlt : j < len
    case neg =>
      have hn := unhide fin0 O (str_out (unhide hS) (by rw [unhide hxl]; omega))
      replace hn := hide hn
      go_wp2_with fail
      go_ret2
      exact ⟨ret_pair (unhide hn).1.symm (unhide hn).2.symm, rfl⟩
    obtain ⟨b, o, rfl, hb, hc⟩ := (unhide h).2.2.2 j hlt
    have hjx : j < xs.length := by rw [unhide hxl]; exact hlt
    have hji : (j : Int) < (len : Int) := by omega
    by_cases c34 : at' xs j = 34
    · have hn := hide (unhide fin1 O _ (str_quote (unhide hS) hjx c34))
      rw [c34] at hc
      clear c34 hS
      go_wp2_with fail
      go_ret2
      exact ⟨ret_pair (by rw [(unhide hn).1]; omega) (unhide hn).2.symm, rfl⟩
    have n34 : (at' xs j == 34) = false := by simpa using c34
    by_cases c32 : at' xs j < 32
    · have hn := hide (unhide fin0 O (str_ctl (unhide hS) hjx c34 c32))
      clear c34 hS
      generalize at' xs j = c at *
      go_wp2_with fail
      go_ret2
      exact ⟨ret_pair (unhide hn).1.symm (unhide hn).2.symm, rfl⟩
    by_cases c92 : at' xs j = 92
    case neg =>
      have hn := hide (str_next (unhide hS) hjx c34 c32 c92)
      have n92 : (at' xs j == 92) = false := by simpa using c92
      clear c34 hS c92
      generalize at' xs j = c at *
      go_wp2_with fail
      go_round
      case rel => exact ⟨j + 1, by omega, by omega, by go_num, hn⟩
      case measure => simp [intOf]; omega
    rw [c92] at hc
    clear n34 c34 c32
    by_cases hj1 : j + 1 < len
    case neg =>
      have hn := hide (unhide fin0 O (str_last (unhide hS) (by rw [unhide hxl]; omega) c92))
      clear hS c92
      go_wp2_with fail
      go_ret2
      exact ⟨ret_pair (unhide hn).1.symm (unhide hn).2.symm, rfl⟩
    obtain ⟨b', o', hbo, _, hc1⟩ := (unhide h).2.2.2 (j + 1) hj1
    simp only [Option.some.injEq, Addr.mk.injEq, and_true] at hbo
    obtain ⟨rfl, rfl⟩ := hbo
    have hj1x : j + 1 < xs.length := by rw [unhide hxl]; exact hj1
    have hj1i : (j : Int) + 1 < (len : Int) := by omega
    have f1 := hide (str_esc (unhide hS) hj1x c92)
    have f2 := hide (fun he hu => unhide fin0 O (str_bad (unhide hS) hj1x c92 he hu))
    have f3 := hide (fun hu => str_hex (unhide hS) hj1x c92 hu)
    have f4 := hide (fun (m : Nat) hu hm hm2 hx => unhide fin0 O (str_nohex (m := m) (unhide hS) hj1x c92 hu hm hm2 hx))
    clear hS c92
    generalize at' xs (j + 1) = c at *
    go_upto_if 36 with fail
    go_cut [36] (fun t wx => t = .bool (esc c) ∧ w = wx)
    case first =>
      clear f1 f2 f3 f4
      go_wp2_with fail
      all_goals (go_meet; refine ⟨?_, rfl⟩; simp_all [esc])
    case rest =>
    obtain ⟨rfl, rfl⟩ := hcut
    cases hesc : esc c
    case true =>
      have hn := hide (unhide f1 hesc)
      go_wp2_with fail
      go_round
      case rel => exact ⟨j + 2, by omega, by omega, by go_num, hn⟩
      case measure => simp [intOf]; omega
    by_cases c117 : c = 117
    case neg =>
      have n117 : (c == 117) = false := by simpa using c117
      have hn := hide (unhide f2 hesc c117)
      clear c117
      go_wp2_with fail
      go_ret2
      exact ⟨ret_pair (unhide hn).1.symm (unhide hn).2.symm, rfl⟩
    have e117 : (c == 117) = true := by simpa using c117
    by_cases hj6 : j + 6 ≤ len
    case neg =>
      have hn := hide (unhide f4 (max (j + 2) len) c117 (by omega) (by omega) (fun hlt => by rw [unhide hxl] at hlt; omega))
      clear c117
      go_wp2_with fail
      go_ret2
      exact ⟨ret_pair (unhide hn).1.symm (unhide hn).2.symm, rfl⟩
    have C117 := hide c117
    clear c117
    go_wp2_with fail
    go_loop [7] (fun v => ∃ k : Nat, j + 2 ≤ k ∧ k ≤ j + 6 ∧ v = .int .i64 k ∧ Hid (∀ m, j + 2 ≤ m → m < k → hex (at' xs m) = true)) (fun v => j + 6 - (intOf v).toNat)
    case atStart => exact ⟨j + 2, by omega, by omega, by go_num, fun m h1 h2 => absurd h2 (by omega)⟩
    case round =>
      obtain ⟨k, hk1, hk2, rfl, hx⟩ := hrel
      by_cases hk6 : k < j + 6
      · obtain ⟨b', o', hbo, _, hck⟩ := (unhide h).2.2.2 k (by omega)
        simp only [Option.some.injEq, Addr.mk.injEq, and_true] at hbo
        obtain ⟨rfl, rfl⟩ := hbo
        have hki : (k : Int) < (len : Int) := by omega
        cases hh : hex (at' xs k)
        · have hn := hide (unhide f4 k (unhide C117) hk1 hk6 (fun _ => hh))
          generalize at' xs k = d at *
          go_wp2_with fail
          refine (isHex_any _ _).mono ?_
          rintro e wx ⟨rfl, rfl⟩
          rw [hh]
          go_wp2_with fail
          go_ret2
          exact ⟨ret_pair (unhide hn).1.symm (unhide hn).2.symm, rfl⟩
        · have hx2 : Hid (∀ m, j + 2 ≤ m → m < k + 1 → hex (at' xs m) = true) := by
            intro m h1 h2
            rcases Nat.lt_or_ge m k with h3 | h3
            · exact unhide hx m h1 h3
            · obtain rfl : m = k := by omega
              exact hh
          generalize at' xs k = d at *
          go_wp2_with fail
          refine (isHex_any _ _).mono ?_
          rintro e wx ⟨rfl, rfl⟩
          rw [hh]
          go_wp2_with fail
          go_round
          case rel => exact ⟨k + 1, by omega, by omega, by go_num, hx2⟩
          case measure => simp [intOf]; omega
      · obtain rfl : k = j + 6 := by omega
        have hn := hide (unhide f3 (unhide C117) (by rw [unhide hxl]; exact hj6) (unhide hx))
        go_wp2_with fail
        go_round
        case rel => exact ⟨j + 6, by omega, by omega, by go_num, hn⟩
        case measure => simp [intOf]; omega

end Go.Proofs.Qxb6602184a
