/-
  The walks of isWS, skipSpace, jsonSpace and of 'FnSkipSpaceSpec'.
-/
import Derived.Test.Qxb6602184aBase
namespace Go.Proofs.Qxb6602184a
open Go.RowKit

theorem getD_get {l : List Int} {k : Nat} (h : k < l.length) : l.getD k 0 = l[k] := by simp [List.getD, h]
theorem drop_cons {l : List Int} {k : Nat} (h : k < l.length) : l.drop k = at' l k :: l.drop (k + 1) := by
  unfold at'
  rw [List.drop_eq_getElem_cons h, getD_get h]
theorem sp_cons (c : Int) (t : List Int) : sp (c :: t) = if ws c then sp t + 1 else 0 := rfl
theorem dg_cons (c : Int) (t : List Int) : dg (c :: t) = if digit c then dg t + 1 else 0 := rfl

/-- Where the blanks from k on end. -/
def spE (xs : List Int) (k : Nat) : Nat := k + sp (xs.drop k)

theorem isWS_any (c : Int) (w : World) : Calls Try.prog 12 #[.int .u8 c] w fun e w' => e = .returned (.bool (ws c)) ∧ w = w' := by
  go_enter Try.func12, Try.ntmps12
  go_wp2_with fail
  all_goals (go_ret; refine ⟨?_, rfl⟩; simp_all [ws])

set_option maxHeartbeats 800000 in
theorem skipSpace_any (a : Option Addr) (len cap : Nat) (xs : List Int) (k : Nat) (w : World) (hl : len ≤ 1048576) (hk : (k : Int) ≤ 9223372036854775807) (h : Holds w a len xs) :
    Calls Try.prog 22 #[.slice a len cap, .int .i64 k] w fun e w' => e = .returned (.int .i64 (spE xs k : Nat)) ∧ w = w' := by
  have hxl := hide h.1
  replace h := hide h
  go_enter Try.func22, Try.ntmps22
  go_wp2_with fail
  go_loop [1] (fun i => ∃ j : Nat, (j : Int) ≤ 9223372036854775807 ∧ i = .int .i64 j ∧ Hid (j + sp (xs.drop j) = spE xs k)) (fun i => len - (intOf i).toNat)
  case atStart => exact ⟨k, hk, rfl, rfl⟩
  case round =>
    obtain ⟨j, hj, rfl, he⟩ := hrel
    by_cases hlt : j < len
    · obtain ⟨b, o, rfl, hb, hc⟩ := (unhide h).2.2.2 j hlt
      have hd : Hid (xs.drop j = at' xs j :: xs.drop (j + 1)) := drop_cons (by rw [unhide hxl]; exact hlt)
      generalize hcc : at' xs j = c at *
      have hi : (j : Int) < (len : Int) := by omega
      have hstep : Hid (ws c = true → j + 1 + sp (xs.drop (j + 1)) = spE xs k) := by
        intro hw
        rw [← unhide he, unhide hd, sp_cons, if_pos hw]
        omega
      have hstop : Hid (ws c = false → spE xs k = j) := by
        intro hw
        rw [← unhide he, unhide hd, sp_cons, if_neg (by simp [hw])]
        omega
      clear hcc
      go_upto_region 1 with fail
      go_cut [36] (fun t wx => t = .bool (ws c) ∧ w = wx)
      case first =>
        clear hstep hstop hd he
        go_wp2_with fail
        all_goals (go_meet; refine ⟨?_, rfl⟩; simp_all [ws])
      case rest =>
      obtain ⟨rfl, rfl⟩ := hcut
      cases hw : ws c
      · have hf := hide (unhide hstop hw)
        go_wp2_with fail
        go_ret
        exact ⟨by rw [unhide hf]; rfl, rfl⟩
      · have hf := hide (unhide hstep hw)
        go_wp2_with fail
        go_round
        case rel => exact ⟨j + 1, by omega, by go_num, hf⟩
        case measure => simp [intOf]; omega
    · have hf : Hid (spE xs k = j) := by
        show _ = _
        rw [← unhide he, List.drop_of_length_le (l := xs) (by rw [unhide hxl]; omega)]
        rfl
      go_wp2_with fail
      go_ret
      exact ⟨by rw [unhide hf]; rfl, rfl⟩

theorem zzSkipSpace_any (a : Option Addr) (len cap : Nat) (xs : List Int) (k : Nat) (w : World) (hl : len ≤ 1048576) (hk : (k : Int) ≤ 9223372036854775807) (h : Holds w a len xs) :
    Calls Try.prog 11 #[.slice a len cap, .int .i64 k] w fun e w' => e = .returned (.int .i64 (spE xs k : Nat)) ∧ w = w' := by
  go_enter Try.func11, Try.ntmps11
  go_wp2_with fail
  refine (skipSpace_any a len cap xs k w hl hk h).mono ?_
  rintro e w1 ⟨rfl, rfl⟩
  go_wp2_with fail
  go_ret
  exact ⟨rfl, rfl⟩

set_option maxHeartbeats 800000 in
theorem jsonSpace_any (a : Option Addr) (len cap : Nat) (xs : List Int) (k : Nat) (w : World) (hl : len ≤ 1048576) (hk : (k : Int) ≤ 9223372036854775807) (h : Holds w a len xs) :
    Calls Try.prog 33 #[.slice a len cap, .int .i64 k] w fun e w' => e = .returned (.int .i64 (spE xs k : Nat)) ∧ w = w' := by
  have hxl := hide h.1
  replace h := hide h
  go_enter Try.func33, Try.ntmps33
  go_wp2_with fail
  go_loop [1] (fun i => ∃ j : Nat, (j : Int) ≤ 9223372036854775807 ∧ i = .int .i64 j ∧ Hid (j + sp (xs.drop j) = spE xs k)) (fun i => len - (intOf i).toNat)
  case atStart => exact ⟨k, hk, rfl, rfl⟩
  case round =>
    obtain ⟨j, hj, rfl, he⟩ := hrel
    by_cases hlt : j < len
    · obtain ⟨b, o, rfl, hb, hc⟩ := (unhide h).2.2.2 j hlt
      have hd : Hid (xs.drop j = at' xs j :: xs.drop (j + 1)) := drop_cons (by rw [unhide hxl]; exact hlt)
      generalize hcc : at' xs j = c at *
      have hi : (j : Int) < (len : Int) := by omega
      have hstep : Hid (ws c = true → j + 1 + sp (xs.drop (j + 1)) = spE xs k) := by
        intro hw
        rw [← unhide he, unhide hd, sp_cons, if_pos hw]
        omega
      have hstop : Hid (ws c = false → spE xs k = j) := by
        intro hw
        rw [← unhide he, unhide hd, sp_cons, if_neg (by simp [hw])]
        omega
      clear hcc
      cases hw : ws c
      · have hf := hide (unhide hstop hw)
        go_wp2_with fail
        refine (isWS_any _ _).mono ?_
        rintro e wx ⟨rfl, rfl⟩
        rw [hw]
        go_wp2_with fail
        go_ret
        exact ⟨by rw [unhide hf]; rfl, rfl⟩
      · have hf := hide (unhide hstep hw)
        go_wp2_with fail
        refine (isWS_any _ _).mono ?_
        rintro e wx ⟨rfl, rfl⟩
        rw [hw]
        go_wp2_with fail
        go_round
        case rel => exact ⟨j + 1, by omega, by go_num, hf⟩
        case measure => simp [intOf]; omega
    · have hf : Hid (spE xs k = j) := by
        show _ = _
        rw [← unhide he, List.drop_of_length_le (l := xs) (by rw [unhide hxl]; omega)]
        rfl
      go_wp2_with fail
      go_ret
      exact ⟨by rw [unhide hf]; rfl, rfl⟩

theorem bytes9_any (a : Option Addr) (len cap : Nat) (x : Int) (w : World) (hm : len ≤ maxLen) :
    Calls Try.prog 9 #[.slice a len cap, .int .i64 x] w fun e w' => e = .returned (.bool (decide (len ≤ 1048576))) ∧ w = w' := by
  unfold maxLen at hm
  by_cases h : len ≤ 1048576
  · go_enter Try.func9, Try.ntmps9
    go_wp2_with fail
    go_ret
    exact ⟨by simp [h], rfl⟩
  · go_enter Try.func9, Try.ntmps9
    go_wp2_with fail
    go_ret
    exact ⟨by simp [h], rfl⟩

/-- Every byte that is skipped is a blank; the next is none. -/
theorem run_all (p : Int → Bool) (l : List Int) : ∀ j, j < run p l → p (at' l j) = true := by
  induction l with
  | nil => intro j hj; simp [run] at hj
  | cons c t ih =>
    intro j hj
    simp only [run] at hj
    split at hj
    · cases j with
      | zero => assumption
      | succ j =>
        have := ih j (by omega)
        simpa [at', List.getD] using this
    · omega
theorem run_end (p : Int → Bool) (l : List Int) : run p l < l.length → p (at' l (run p l)) = false := by
  induction l with
  | nil => intro h; simp [run] at h
  | cons c t ih =>
    intro h
    simp only [run] at h ⊢
    split
    · rename_i hc
      rw [if_pos hc] at h
      have := ih (by simpa using h)
      simpa [at', List.getD] using this
    · rename_i hc
      simpa [at', List.getD] using hc
theorem at_drop {xs : List Int} {m k : Nat} : at' (xs.drop m) k = at' xs (m + k) := by
  unfold at'
  simp [List.getD]

set_option maxHeartbeats 800000 in
set_option maxRecDepth 10000 in
theorem skipLaw (a : Option Addr) (len cap : Nat) (xs : List Int) (k : Nat) (w : World) (hl : len ≤ 65536) (hk : (k : Int) ≤ 9223372036854775807) (h : Holds w a len xs) :
    Calls Try.prog 3 #[.slice a len cap, .int .i64 k] w fun e w' => e = .returned (.bool true) ∧ Below w.heap.size w w' := by
  have hxl := h.1
  have hd : decide (len ≤ 1048576) = true := by simp; omega
  go_enter Try.func3, Try.ntmps3
  go_wp2_with fail
  refine (bytes9_any a len cap k w (by unfold maxLen; omega)).mono ?_
  rintro e w0 ⟨rfl, rfl⟩
  rw [hd]
  clear hd
  go_wp2_with fail
  refine (clone_any a len cap xs w (by omega) h).mono ?_
  rintro e w1 ⟨a1, c1, rfl, hc1, hold, hbel⟩
  clear h
  go_wp2_with fail
  refine (zzSkipSpace_any a1 len c1 xs k w1 (by omega) hk hold).mono ?_
  rintro e wx ⟨rfl, rfl⟩
  replace hold := hide hold
  by_cases hge : len ≤ k
  · have e0 : spE xs k = k := by unfold spE; rw [List.drop_of_length_le (l := xs) (by omega)]; rfl
    rw [e0]
    clear e0
    go_wp2_with fail
    go_ret
    exact ⟨rfl, hbel⟩
  · have hall := hide (run_all ws (xs.drop k))
    have hend := hide (run_end ws (xs.drop k))
    have hsp : sp (xs.drop k) ≤ len - k := by have := sp_le (xs.drop k); rw [List.length_drop, hxl] at this; exact this
    rw [show run ws (xs.drop k) = sp (xs.drop k) from rfl, List.length_drop, hxl, at_drop] at hend
    have eS : spE xs k = k + sp (xs.drop k) := rfl
    rw [eS]
    clear eS
    generalize hS : sp (xs.drop k) = S at *
    have hall : Hid (∀ j, k ≤ j → j < k + S → ws (at' xs j) = true) := by
      intro j h1 h2
      have := unhide hall (j - k) (by show j - k < sp (xs.drop k); omega)
      rw [at_drop] at this
      rwa [show k + (j - k) = j from by omega] at this
    clear hS
    go_wp2_with fail
    go_loop [6] (fun i => ∃ j : Nat, k ≤ j ∧ j ≤ k + S ∧ i = .int .i64 j) (fun i => k + S - (intOf i).toNat)
    case atStart => exact ⟨k, by omega, by omega, rfl⟩
    case round =>
      obtain ⟨j, hkj, hj, rfl⟩ := hrel
      by_cases hlt : j < k + S
      · obtain ⟨b, o, rfl, hb, hc⟩ := (unhide hold).2.2.2 j (by omega)
        have hw := unhide hall j hkj hlt
        generalize at' xs j = c at *
        go_wp2_with fail
        refine (isWS_any _ _).mono ?_
        rintro e wx ⟨rfl, rfl⟩
        rw [hw]
        go_wp2_with fail
        go_round
        case rel => exact ⟨j + 1, by omega, by omega, by go_num⟩
        case measure => simp [intOf]; omega
      · obtain rfl : j = k + S := by omega
        by_cases hS : k + S < len
        · obtain ⟨b, o, rfl, hb, hc⟩ := (unhide hold).2.2.2 (k + S) hS
          have hw := unhide hend (by omega)
          have hne : (((k + S : Nat) : Int) == (len : Int)) = false := by simp; omega
          have hne' : ((k : Int) + S == (len : Int)) = false := by simp; omega
          generalize at' xs (k + S) = c at *
          go_wp2_with fail
          refine (isWS_any _ _).mono ?_
          rintro e wx ⟨rfl, rfl⟩
          rw [hw]
          go_wp2_with fail
          go_ret
          exact ⟨rfl, hbel⟩
        · have hne : ((k : Int) + S == (len : Int)) = true := by simp; omega
          go_wp2_with fail
          go_ret
          exact ⟨rfl, hbel⟩

end Go.Proofs.Qxb6602184a
