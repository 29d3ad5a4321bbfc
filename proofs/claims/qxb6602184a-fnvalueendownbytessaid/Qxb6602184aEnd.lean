/-
  The walks of closingQuote, valueEnd, ZZvalueEnd.
-/
import Derived.Test.Qxb6602184aSpace
import Derived.Test.Qxb6602184aOwn
namespace Go.Proofs.Qxb6602184a
open Go.RowKit

theorem ret_int {a b : Int} (h : a = b) : Ending.returned (.int .i64 a) = Ending.returned (.int .i64 b) := by rw [h]

theorem cq_bd (l : List Int) : ∀ b k, cq b l = some k → k < l.length := by
  induction l with
  | nil => intro b k h; simp [cq] at h
  | cons c t ih =>
    intro b k h
    have fin : ∀ b', (cq b' t).map (· + 1) = some k → k < (c :: t).length := by
      intro b' h'
      obtain ⟨m, hm, rfl⟩ := map_some h'
      have := ih b' m hm
      simp; omega
    cases b with
    | false =>
      simp only [cq] at h
      split at h
      · cases h; simp
      · split at h
        · exact fin _ h
        · exact fin _ h
    | true => exact fin _ h

/-- closingQuote's state at j: the quote stands at R. -/
def Quo (xs : List Int) (j R : Nat) : Prop := j ≤ R ∧ cq false (xs.drop j) = some (R - j)

theorem quo_lt {xs : List Int} {j R : Nat} (h : Quo xs j R) : R < xs.length := by
  have := cq_bd _ _ _ h.2
  rw [List.length_drop] at this
  have := h.1
  omega
theorem quo_hit {xs : List Int} {j R : Nat} (h : Quo xs j R) (hc : at' xs j = 34) : R = j := by
  have h1 := quo_lt h
  have h2 := h.2
  have := h.1
  rw [drop_cons (by omega), cq, if_pos hc] at h2
  simp at h2
  omega
theorem quo_esc {xs : List Int} {j R : Nat} (h : Quo xs j R) (h34 : ¬ at' xs j = 34) (hc : at' xs j = 92) : j + 1 < R ∧ Quo xs (j + 2) R := by
  have h1 := quo_lt h
  have h2 := h.2
  have h0 := h.1
  rw [drop_cons (by omega), cq, if_neg h34, if_pos hc] at h2
  obtain ⟨m, hm, he⟩ := map_some h2
  have h3 := cq_bd _ _ _ hm
  rw [List.length_drop] at h3
  rw [drop_cons (by omega), cq] at hm
  obtain ⟨m2, hm2, he2⟩ := map_some hm
  refine ⟨by omega, by omega, ?_⟩
  rw [hm2]
  congr 1
  omega
theorem quo_next {xs : List Int} {j R : Nat} (h : Quo xs j R) (h34 : ¬ at' xs j = 34) (hc : ¬ at' xs j = 92) : Quo xs (j + 1) R := by
  have h1 := quo_lt h
  have h2 := h.2
  have h0 := h.1
  rw [drop_cons (by omega), cq, if_neg h34, if_neg hc] at h2
  obtain ⟨m, hm, he⟩ := map_some h2
  refine ⟨by omega, ?_⟩
  rw [hm]
  congr 1
  omega

set_option maxHeartbeats 400000 in
theorem closingQuote_any (a : Option Addr) (len cap : Nat) (xs : List Int) (i R : Nat) (w : World) (hl : len ≤ 1048576) (h : Holds w a len xs) (hq : Quo xs (i + 1) R) :
    Calls Try.prog 24 #[.slice a len cap, .int .i64 i] w fun e w' => e = .returned (.int .i64 R) ∧ w = w' := by
  have hxl := hide h.1
  have hRl : R < len := by rw [← unhide hxl]; exact quo_lt hq
  have hiR : i + 1 ≤ R := hq.1
  replace h := hide h
  go_enter Try.func24, Try.ntmps24
  go_wp2_with fail
  go_loop [1] (fun v => ∃ j : Nat, j ≤ R ∧ v = .int .i64 j ∧ Hid (Quo xs j R)) (fun v => len - (intOf v).toNat)
  case atStart => exact ⟨i + 1, hiR, by go_num, hq⟩
  case round =>
    obtain ⟨j, hjR, rfl, hj⟩ := hrel
    clear hq
    obtain ⟨b, o, rfl, hb, hc⟩ := (unhide h).2.2.2 j (by omega)
    have hi : (j : Int) < (len : Int) := by omega
    have f1 := hide (quo_hit (unhide hj))
    have f2 := hide (quo_esc (unhide hj))
    have f3 := hide (quo_next (unhide hj))
    generalize at' xs j = c at *
    cases h34 : (c != 34)
    · have e : c = 34 := by simpa using h34
      have hR := hide (unhide f1 e)
      clear e
      go_wp2_with fail
      go_ret
      exact ⟨by rw [unhide hR]; rfl, rfl⟩
    · have n34 : ¬ c = 34 := by simpa using h34
      cases h92 : (c == 92)
      · have n92 : ¬ c = 92 := by simpa using h92
        have hn := hide (unhide f3 n34 n92)
        have hn1 := (unhide hn).1
        clear n34 n92
        go_wp2_with fail
        go_round
        case rel => exact ⟨j + 1, hn1, by go_num, hn⟩
        case measure => simp [intOf]; omega
      · have e : c = 92 := by simpa using h92
        have hn := hide (unhide f2 n34 e).2
        have hn1 := (unhide hn).1
        clear n34 e
        go_wp2_with fail
        go_round
        case rel => exact ⟨j + 2, hn1, by go_num, hn⟩
        case measure => simp [intOf]; omega

theorem sm_bd (l : List Int) : ∀ q D n, sm q D l = some n → 1 ≤ n ∧ n ≤ l.length := by
  induction l with
  | nil => intro q D n h; simp [sm] at h
  | cons c t ih =>
    intro q D n h
    have fin : ∀ q' D', (sm q' D' t).map (· + 1) = some n → 1 ≤ n ∧ n ≤ (c :: t).length := by
      intro q' D' h'
      obtain ⟨m, hm, rfl⟩ := map_some h'
      have := ih q' D' m hm
      simp; omega
    match q, h with
    | 0, h =>
      simp only [sm] at h
      split at h
      · exact fin _ _ h
      · split at h
        · exact fin _ _ h
        · split at h
          · split at h
            · cases h; simp
            · exact fin _ _ h
          · exact fin _ _ h
    | 1, h =>
      simp only [sm] at h
      split at h
      · exact fin _ _ h
      · split at h
        · exact fin _ _ h
        · exact fin _ _ h
    | k + 2, h => exact fin _ _ h

theorem sm_str (D : Nat) (l : List Int) : ∀ b n, sm (if b then 2 else 1) D l = some n → ∃ k, cq b l = some k ∧ k + 1 ≤ n ∧ sm 0 D (l.drop (k + 1)) = some (n - (k + 1)) := by
  induction l with
  | nil => intro b n h; simp [sm] at h
  | cons c t ih =>
    intro b n h
    have go : ∀ b', (sm (if b' then 2 else 1) D t).map (· + 1) = some n → ∃ k, (cq b' t).map (· + 1) = some k ∧ k + 1 ≤ n ∧ sm 0 D ((c :: t).drop (k + 1)) = some (n - (k + 1)) := by
      intro b' h'
      obtain ⟨m, hm, rfl⟩ := map_some h'
      obtain ⟨k, hk, hle, hs⟩ := ih b' m hm
      refine ⟨k + 1, by rw [hk]; rfl, by omega, ?_⟩
      rw [List.drop_succ_cons, hs]
      congr 1
      omega
    cases b with
    | false =>
      simp only [Bool.false_eq_true, if_false, sm] at h
      simp only [cq]
      split at h
      · rename_i h34
        rw [if_pos h34]
        obtain ⟨m, hm, rfl⟩ := map_some h
        refine ⟨0, rfl, by omega, ?_⟩
        rw [List.drop_succ_cons, List.drop_zero, hm]
        rfl
      · rename_i h34
        rw [if_neg h34]
        split at h
        · rename_i h92
          rw [if_pos h92]
          exact go true h
        · rename_i h92
          rw [if_neg h92]
          exact go false h
    | true =>
      simp only [if_true, sm] at h
      simp only [cq]
      exact go false h

/-- valueEnd's state over brackets: at j, at depth D; the value ends at R. -/
def Scn (xs : List Int) (j D R : Nat) : Prop := j ≤ R ∧ sm 0 D (xs.drop j) = some (R - j)

theorem scn_lt {xs : List Int} {j D R : Nat} (h : Scn xs j D R) : j < R ∧ R ≤ xs.length := by
  have := sm_bd _ _ _ _ h.2
  rw [List.length_drop] at this
  omega
theorem scn_str {xs : List Int} {j D R : Nat} (h : Scn xs j D R) (hc : at' xs j = 34) : ∃ k, Quo xs (j + 1) k ∧ k < R ∧ Scn xs (k + 1) D R := by
  have h1 := scn_lt h
  have h2 := h.2
  rw [drop_cons (by omega), sm, if_pos hc] at h2
  obtain ⟨m, hm, he⟩ := map_some h2
  obtain ⟨k, hk, hle, hs⟩ := sm_str D _ false m hm
  rw [List.drop_drop] at hs
  refine ⟨j + 1 + k, ⟨by omega, ?_⟩, by omega, by omega, ?_⟩
  · rw [hk]; congr 1; omega
  · rw [show j + 1 + k + 1 = j + 1 + (k + 1) from by omega, hs]; congr 1; omega
theorem scn_open {xs : List Int} {j D R : Nat} (h : Scn xs j D R) (hc : at' xs j = 123 ∨ at' xs j = 91) : Scn xs (j + 1) (D + 1) R := by
  have h1 := scn_lt h
  have h2 := h.2
  rw [drop_cons (by omega), sm, if_neg (by omega), if_pos hc] at h2
  obtain ⟨m, hm, he⟩ := map_some h2
  refine ⟨by omega, ?_⟩
  rw [hm]; congr 1; omega
theorem scn_end {xs : List Int} {j R : Nat} (h : Scn xs j 1 R) (hc : at' xs j = 125 ∨ at' xs j = 93) : R = j + 1 := by
  have h1 := scn_lt h
  have h2 := h.2
  rw [drop_cons (by omega), sm, if_neg (by omega), if_neg (by omega), if_pos hc, if_pos rfl] at h2
  simp at h2
  omega
theorem scn_close {xs : List Int} {j D R : Nat} (h : Scn xs j (D + 2) R) (hc : at' xs j = 125 ∨ at' xs j = 93) : Scn xs (j + 1) (D + 1) R := by
  have h1 := scn_lt h
  have h2 := h.2
  rw [drop_cons (by omega), sm, if_neg (by omega), if_neg (by omega), if_pos hc, if_neg (by omega)] at h2
  obtain ⟨m, hm, he⟩ := map_some h2
  refine ⟨by omega, ?_⟩
  rw [show D + 2 - 1 = D + 1 from rfl] at hm
  rw [hm]; congr 1; omega
theorem scn_next {xs : List Int} {j D R : Nat} (h : Scn xs j D R) (h1 : ¬ at' xs j = 34) (h2 : ¬ (at' xs j = 123 ∨ at' xs j = 91)) (h3 : ¬ (at' xs j = 125 ∨ at' xs j = 93)) : Scn xs (j + 1) D R := by
  have h0 := scn_lt h
  have hs := h.2
  rw [drop_cons (by omega), sm, if_neg h1, if_neg h2, if_neg h3] at hs
  obtain ⟨m, hm, he⟩ := map_some hs
  refine ⟨by omega, ?_⟩
  rw [hm]; congr 1; omega

set_option maxHeartbeats 800000 in
set_option maxRecDepth 10000 in
theorem valueEnd_any (a : Option Addr) (len cap : Nat) (xs : List Int) (i n : Nat) (w : World) (hl : len ≤ 1048576) (h : Holds w a len xs) (hi : i < len) (hv : ve (xs.drop i) = some n) :
    Calls Try.prog 26 #[.slice a len cap, .int .i64 i] w fun e w' => e = .returned (.int .i64 (i + n : Nat)) ∧ w = w' := by
  have hxl := hide h.1
  replace h := hide h
  obtain ⟨R, hR⟩ : ∃ R, R = i + n := ⟨_, rfl⟩
  rw [← hR]
  unfold ve at hv
  rw [at_drop, Nat.add_zero] at hv
  obtain ⟨b, o, rfl, hb, hc⟩ := (unhide h).2.2.2 i hi
  have hii : (i : Int) < (len : Int) := by omega
  by_cases h34 : at' xs i = 34
  · rw [if_pos h34] at hv
    obtain ⟨k, hk, he⟩ := map_some hv
    rw [List.drop_drop] at hk
    have hq : Quo xs (i + 1) (i + 1 + k) := ⟨by omega, by rw [hk]; congr 1; omega⟩
    have hkl := quo_lt hq
    rw [unhide hxl] at hkl
    rw [h34] at hc
    have HR : Hid (R = i + 1 + k + 1) := by show _ = _; omega
    clear hv h34 hR hk
    go_enter Try.func26, Try.ntmps26
    go_wp2_with fail
    refine (closingQuote_any _ len cap xs i (i + 1 + k) w hl (unhide h) hq).mono ?_
    rintro e wx ⟨rfl, rfl⟩
    clear hq
    generalize i + 1 + k = q at *
    go_wp2_with fail
    go_ret
    exact ⟨ret_int (by rw [unhide HR]; omega), rfl⟩
  · rw [if_neg h34] at hv
    by_cases hbr : at' xs i = 123 ∨ at' xs i = 91
    · rw [if_pos hbr] at hv
      have hs : Scn xs i 0 R := ⟨by omega, by rw [hv]; congr 1; omega⟩
      have hRl := (scn_lt hs).2
      rw [unhide hxl] at hRl
      have H0 := hide (⟨hs, hbr⟩ : Scn xs i 0 R ∧ (at' xs i = 123 ∨ at' xs i = 91))
      clear hv hs hR
      have e34 : (at' xs i == 34) = false := by simpa using h34
      have HB : Hid ((at' xs i == 123) = true ∨ ((at' xs i == 123) = false ∧ (at' xs i == 91) = true)) := by
        rcases hbr with e | e
        · left; simp [e]
        · right; simp [e]
      clear hbr h34
      generalize hcc : at' xs i = c at *
      replace hcc := hide hcc
      go_enter Try.func26, Try.ntmps26
      go_upto_if 16 with fail
      go_cut [16] (fun t wx => t = .bool true ∧ w = wx)
      case first =>
        rcases unhide HB with h1 | ⟨h1, h2⟩
        · go_wp2_with fail
          go_meet
          case rel => exact ⟨by rw [h1], rfl⟩
        · go_wp2_with fail
          go_meet
          case rel => exact ⟨rfl, rfl⟩
      case rest =>
      obtain ⟨rfl, rfl⟩ := hcut
      rw [← unhide hcc] at H0
      clear HB hcc e34 hc
      go_wp2_with fail
      go_loop [1, 5] (fun v d => ∃ j D : Nat, j < R ∧ D ≤ j ∧ v = .int .i64 j ∧ d = .int .i64 D ∧ Hid (Scn xs j D R ∧ (D = 0 → at' xs j = 123 ∨ at' xs j = 91))) (fun v _ => R - (intOf v).toNat)
      case atStart => exact ⟨i, 0, (scn_lt (unhide H0).1).1, by omega, rfl, rfl, (unhide H0).1, fun _ => (unhide H0).2⟩
      case round =>
        obtain ⟨j, D, hjR, hDj, rfl, rfl, hS⟩ := hrel
        clear H0
        have hc := (unhide h).2.2.2 j (by omega)
        obtain ⟨b', o', hbo, _, hc⟩ := hc
        simp only [Option.some.injEq, Addr.mk.injEq, and_true] at hbo
        obtain ⟨rfl, rfl⟩ := hbo
        have hj : (j : Int) < (len : Int) := by omega
        by_cases c34 : at' xs j = 34
        · obtain ⟨k, hq, hkR, hs2⟩ := scn_str (unhide hS).1 c34
          have hjk : j + 1 ≤ k := hq.1
          have hk2 := (scn_lt hs2).1
          have hD : ¬ D = 0 := fun e => by have := (unhide hS).2 e; omega
          rw [c34] at hc
          replace hs2 := hide hs2
          clear hS c34
          go_wp2_with fail
          refine (closingQuote_any _ len cap xs j k w hl (unhide h) hq).mono ?_
          rintro e wx ⟨rfl, rfl⟩
          clear hq
          go_wp2_with fail
          go_round
          case rel => exact ⟨k + 1, D, hk2, by omega, by go_num, rfl, unhide hs2, fun e => absurd e hD⟩
          case measure => simp [intOf]; omega
        have n34 : (at' xs j == 34) = false := by simpa using c34
        by_cases cop : at' xs j = 123 ∨ at' xs j = 91
        · have hs2 := hide (scn_open (unhide hS).1 cop)
          have hk2 := (scn_lt (unhide hs2)).1
          have hcases : (at' xs j == 123) = true ∨ ((at' xs j == 123) = false ∧ (at' xs j == 91) = true) := by
            rcases cop with e | e
            · left; simp [e]
            · right; simp [e]
          clear hS c34 cop
          generalize at' xs j = c at *
          rcases hcases with h1 | ⟨h1, h2⟩
          · go_wp2_with fail
            go_round
            case rel => exact ⟨j + 1, D + 1, hk2, by omega, by go_num, by go_num, unhide hs2, fun e => absurd e (by omega)⟩
            case measure => simp [intOf]; omega
          · go_wp2_with fail
            go_round
            case rel => exact ⟨j + 1, D + 1, hk2, by omega, by go_num, by go_num, unhide hs2, fun e => absurd e (by omega)⟩
            case measure => simp [intOf]; omega
        have hD : ¬ D = 0 := fun e => cop ((unhide hS).2 e)
        have n123 : (at' xs j == 123) = false := by simp; omega
        have n91 : (at' xs j == 91) = false := by simp; omega
        by_cases ccl : at' xs j = 125 ∨ at' xs j = 93
        · have hcases : (at' xs j == 125) = true ∨ ((at' xs j == 125) = false ∧ (at' xs j == 93) = true) := by
            rcases ccl with e | e
            · left; simp [e]
            · right; simp [e]
          by_cases hD1 : D = 1
          · subst hD1
            have hR := hide (scn_end (unhide hS).1 ccl)
            clear hS c34 cop ccl
            generalize at' xs j = c at *
            rcases hcases with h1 | ⟨h1, h2⟩
            · go_wp2_with fail
              go_ret
              exact ⟨ret_int (by rw [unhide hR]; omega), rfl⟩
            · go_wp2_with fail
              go_ret
              exact ⟨ret_int (by rw [unhide hR]; omega), rfl⟩
          · obtain ⟨D, rfl⟩ : ∃ E, D = E + 2 := ⟨D - 2, by omega⟩
            have hs2 := hide (scn_close (unhide hS).1 ccl)
            have hk2 := (scn_lt (unhide hs2)).1
            have hd0 : (((D + 2 : Nat) : Int) - 1 == 0) = false := by simp; omega
            have hd1 : ((D : Int) + 2 - 1 == 0) = false := by simp; omega
            clear hS c34 cop ccl
            generalize at' xs j = c at *
            rcases hcases with h1 | ⟨h1, h2⟩
            · go_wp2_with fail
              go_round
              case rel => exact ⟨j + 1, D + 1, hk2, by omega, by go_num, by go_num, unhide hs2, fun e => absurd e (by omega)⟩
              case measure => simp [intOf]; omega
            · go_wp2_with fail
              go_round
              case rel => exact ⟨j + 1, D + 1, hk2, by omega, by go_num, by go_num, unhide hs2, fun e => absurd e (by omega)⟩
              case measure => simp [intOf]; omega
        · have hs2 := hide (scn_next (unhide hS).1 c34 cop ccl)
          have hk2 := (scn_lt (unhide hs2)).1
          have n125 : (at' xs j == 125) = false := by simp; omega
          have n93 : (at' xs j == 93) = false := by simp; omega
          clear hS c34 cop ccl
          generalize at' xs j = c at *
          go_wp2_with fail
          go_round
          case rel => exact ⟨j + 1, D, hk2, by omega, by go_num, rfl, unhide hs2, fun e => absurd e hD⟩
          case measure => simp [intOf]; omega
    · rw [if_neg hbr] at hv
      have n34 : (at' xs i == 34) = false := by simpa using h34
      have n123 : (at' xs i == 123) = false := by simp; omega
      have n91 : (at' xs i == 91) = false := by simp; omega
      have hn : n = run (fun c => !delim c) (xs.drop i) := by simpa using hv.symm
      have HE : Hid (i + run (fun c => !delim c) (xs.drop i) = R) := by show _ = _; omega
      clear hv hn hR h34 hbr
      generalize at' xs i = c at *
      go_enter Try.func26, Try.ntmps26
      go_wp2_with fail
      clear n34 n123 n91 hc
      go_loop [1] (fun v => ∃ j : Nat, j ≤ len ∧ v = .int .i64 j ∧ Hid (j + run (fun c => !delim c) (xs.drop j) = R)) (fun v => len - (intOf v).toNat)
      case atStart => exact ⟨i, by omega, rfl, HE⟩
      case round =>
        obtain ⟨j, hj, rfl, he⟩ := hrel
        clear HE
        by_cases hlt : j < len
        · have hc := (unhide h).2.2.2 j hlt
          obtain ⟨b', o', hbo, _, hc⟩ := hc
          simp only [Option.some.injEq, Addr.mk.injEq, and_true] at hbo
          obtain ⟨rfl, rfl⟩ := hbo
          have hji : (j : Int) < (len : Int) := by omega
          have hd : xs.drop j = at' xs j :: xs.drop (j + 1) := drop_cons (by rw [unhide hxl]; exact hlt)
          have hstop : Hid (delim (at' xs j) = true → R = j) := by
            intro hw
            rw [← unhide he, hd, run, if_neg (by simp [hw])]
            rfl
          have hstep : Hid (delim (at' xs j) = false → j + 1 + run (fun c => !delim c) (xs.drop (j + 1)) = R) := by
            intro hw
            rw [← unhide he, hd, run, if_pos (by simp [hw])]
            omega
          clear hd he
          generalize at' xs j = c at *
          go_wp2_with fail
          all_goals first
            | (go_ret; exact ⟨ret_int (by rw [unhide hstop (by go_light; simp_all [delim, ws])]), rfl⟩)
            | (go_round
               case rel => exact ⟨j + 1, by omega, by go_num, unhide hstep (by go_light; simp_all [delim, ws])⟩
               case measure => simp [intOf]; omega)
        · have hf : Hid (R = j) := by
            show _ = _
            rw [← unhide he, List.drop_of_length_le (l := xs) (by rw [unhide hxl]; omega)]
            rfl
          go_wp2_with fail
          go_ret
          exact ⟨ret_int (by rw [unhide hf]), rfl⟩

theorem zzValueEnd_any (a : Option Addr) (len cap : Nat) (xs : List Int) (i n : Nat) (w : World) (hl : len ≤ 1048576) (h : Holds w a len xs) (hi : i < len) (hv : ve (xs.drop i) = some n) :
    Calls Try.prog 20 #[.slice a len cap, .int .i64 i] w fun e w' => e = .returned (.int .i64 (i + n : Nat)) ∧ w = w' := by
  go_enter Try.func20, Try.ntmps20
  go_wp2_with fail
  refine (valueEnd_any a len cap xs i n w hl h hi hv).mono ?_
  rintro e w1 ⟨rfl, rfl⟩
  go_wp2_with fail
  go_ret
  exact ⟨rfl, rfl⟩

end Go.Proofs.Qxb6602184a
