/-
  The walks of jsonArray, jsonObject, jsonValue, which call one another.
-/
import Derived.Test.Qxb6602184aRec
namespace Go.Proofs.Qxb6602184a
open Go.RowKit

/-- jsonValue's contract, at all places with at most n bytes to come. -/
def ValC (a : Option Addr) (len cap : Nat) (xs : List Int) (n : Nat) : Prop := ∀ (k : Nat) (w : World), len - k ≤ n → k ≤ len → Holds w a len xs →
  Calls Try.prog 25 #[.slice a len cap, .int .i64 k] w fun e w' => e = .returned (.tuple #[.int .i64 (endN k (valO xs k) : Nat), .bool (okB (valO xs k))]) ∧ Below w.heap.size w w'

theorem fin_none (i : Nat) (o : Option Nat) (h : o = none) : ((endN i o : Nat) : Int) = 0 ∧ okB o = false := by subst h; exact ⟨rfl, rfl⟩
theorem fin_some (i : Nat) (o : Option Nat) (n : Nat) (h : o = some n) : ((endN i o : Nat) : Int) = i + n ∧ okB o = true := by subst h; exact ⟨by simp [endN], rfl⟩

set_option maxHeartbeats 1600000 in
set_option maxRecDepth 10000 in
theorem jsonArray_any (a : Option Addr) (len cap : Nat) (xs : List Int) (n i : Nat) (w : World) (hV : ValC a len cap xs n) (hl : len ≤ 1048576) (hi : i < len) (hn : len - i ≤ n + 1) (h : Holds w a len xs) :
    Calls Try.prog 29 #[.slice a len cap, .int .i64 i] w fun e w' => e = .returned (.tuple #[.int .i64 (endN i (arrO xs i) : Nat), .bool (okB (arrO xs i))]) ∧ Below w.heap.size w w' := by
  have hxl := h.1
  have hst := hide (arr_start xs i)
  have hsb := spE_bd (xs := xs) (k := i + 1) (by omega)
  rw [hxl] at hsb
  generalize arrO xs i = O at *
  replace hxl := hide hxl
  replace hV := hide hV
  replace h := hide h
  go_enter Try.func29, Try.ntmps29
  go_wp2_with fail
  rw [show ((i : Int) + 1) = ((i + 1 : Nat) : Int) from by omega]
  refine (jsonSpace_any a len cap xs (i + 1) w hl (by omega) (unhide h)).mono ?_
  rintro e wx ⟨rfl, rfl⟩
  obtain ⟨m, hm⟩ : ∃ m, m = spE xs (i + 1) := ⟨_, rfl⟩
  rw [← hm] at hst hsb ⊢
  clear hm
  obtain ⟨FB, HFB⟩ : ∃ b : Bool, Hid (b = true ↔ m < len ∧ at' xs m = 93) := ⟨decide (m < len ∧ at' xs m = 93), by show _ ↔ _; simp⟩
  go_upto_region 2 with fail
  go_cut [22] (fun t wx => t = .bool FB ∧ w = wx)
  case first =>
    by_cases hp : m < len
    · obtain ⟨b, o, rfl, hb, hc⟩ := (unhide h).2.2.2 m hp
      have hpi : (m : Int) < (len : Int) := by omega
      have e : (at' xs m == 93) = FB := by
        rw [Bool.eq_iff_iff, unhide HFB]
        simp [hp]
      have E := hide e
      clear e
      go_wp2_with fail
      go_meet
      case rel => exact ⟨by rw [← unhide E], rfl⟩
    · have e : FB = false := by
        cases hF : FB
        · rfl
        · exact absurd (unhide HFB |>.1 hF).1 hp
      have E := hide e
      clear e
      go_wp2_with fail
      go_meet
      case rel => exact ⟨by rw [unhide E], rfl⟩
  case rest =>
  obtain ⟨rfl, rfl⟩ := hcut
  cases FB
  case true =>
    have hf := hide (fin_some i O _ ((unhide hst).1 (by rw [unhide hxl]; exact (unhide HFB).1 rfl)))
    go_wp2_with fail
    go_ret2
    exact ⟨ret_pair (by rw [(unhide hf).1]; omega) (unhide hf).2.symm, Below.refl _ _⟩
  have hLp : Hid (Lp xs 1 i m O) := (unhide hst).2 (fun h3 => by have := (unhide HFB).2 (by rw [unhide hxl] at h3; exact h3); cases this)
  clear HFB hst
  go_wp2_with fail
  go_loopw [1] (fun v wr => ∃ k : Nat, i < k ∧ k ≤ len ∧ v = .int .i64 k ∧ Hid (Lp xs 1 i k O) ∧ Below w.heap.size w wr) (fun v _ => len - (intOf v).toNat)
  case atStart => exact ⟨m, by omega, by omega, rfl, hLp, Below.refl _ _⟩
  case round =>
    obtain ⟨k, hik, hkl, rfl, hLk, hbel⟩ := hrel
    have hh := hide ((unhide h).later hbel (Nat.le_refl _))
    clear hLp
    go_wp2_with fail
    refine (unhide hV k _ (by omega) hkl (unhide hh)).mono ?_
    rintro e w2 ⟨rfl, hb2⟩
    have hbel2 : Below w.heap.size w w2 := hbel.trans (hb2.mono hbel.size)
    have hh2 := hide ((unhide h).later hbel2 (Nat.le_refl _))
    clear hb2 hbel hh
    cases hv : valO xs k with
    | none =>
      have hf := hide (fin_none i O (els_none (unhide hLk) hv))
      rw [show okB none = false from rfl, show endN k none = 0 from rfl]
      clear hv
      go_wp2_with fail
      go_ret2
      exact ⟨ret_pair (unhide hf).1.symm (unhide hf).2.symm, hbel2⟩
    | some z =>
      have hMo := hide (els_some (unhide hLk) hv)
      have hzb := valO_bd hv
      rw [unhide hxl] at hzb
      rw [show okB (some z) = true from rfl, show endN k (some z) = k + z from rfl]
      obtain ⟨e, he⟩ : ∃ e, e = k + z := ⟨_, rfl⟩
      rw [← he] at hMo hzb ⊢
      have hke : k < e := by omega
      have hel : e ≤ len := hzb.2
      clear hv he hzb hLk
      have heb := spE_bd (xs := xs) (k := e) (by rw [unhide hxl]; omega)
      rw [unhide hxl] at heb
      go_wp2_with fail
      refine (jsonSpace_any a len cap xs e w2 hl (by omega) (unhide hh2)).mono ?_
      rintro e' wx ⟨rfl, rfl⟩
      have f1 := hide (mo_out (unhide hMo))
      have f2 := hide (mo_close (unhide hMo))
      have f3 := hide (mo_bad (unhide hMo))
      have f4 := hide (mo_comma (unhide hMo))
      rw [unhide hxl] at f1 f2 f4
      generalize spE xs e = m2 at *
      clear hMo
      by_cases hml : m2 < len
      case neg =>
        have hf := hide (fin_none i O (unhide f1 (by omega)))
        go_wp2_with fail
        go_ret2
        exact ⟨ret_pair (unhide hf).1.symm (unhide hf).2.symm, hbel2⟩
      obtain ⟨b, o, rfl, hb, hc⟩ := (unhide hh2).2.2.2 m2 hml
      have hmi : (m2 : Int) < (len : Int) := by omega
      by_cases c93 : at' xs m2 = 93
      · have hf := hide (fin_some i O _ (unhide f2 hml c93))
        rw [c93] at hc
        clear c93
        go_wp2_with fail
        go_ret2
        exact ⟨ret_pair (by rw [(unhide hf).1]; omega) (unhide hf).2.symm, hbel2⟩
      have n93 : (at' xs m2 == 93) = false := by simpa using c93
      by_cases c44 : at' xs m2 = 44
      · have hL2 := hide (unhide f4 hml c93 c44)
        have hm3 := spE_bd (xs := xs) (k := m2 + 1) (by rw [unhide hxl]; omega)
        rw [unhide hxl] at hm3
        rw [c44] at hc
        clear c93 n93 c44
        go_wp2_with fail
        rw [show ((m2 : Int) + 1) = ((m2 + 1 : Nat) : Int) from by omega]
        refine (jsonSpace_any _ len cap xs (m2 + 1) w2 hl (by omega) (unhide hh2)).mono ?_
        rintro e' wx ⟨rfl, rfl⟩
        generalize spE xs (m2 + 1) = m3 at *
        go_wp2_with fail
        go_roundw
        case rel => exact ⟨m3, by omega, hm3.2, rfl, hL2, hbel2⟩
        case measure => simp [intOf]; omega
      · have n44 : (at' xs m2 != 44) = true := by simpa using c44
        have hf := hide (fin_none i O (unhide f3 c93 c44))
        clear c93 c44
        generalize at' xs m2 = c at *
        go_wp2_with fail
        go_ret2
        exact ⟨ret_pair (unhide hf).1.symm (unhide hf).2.symm, hbel2⟩

set_option maxHeartbeats 1600000 in
set_option maxRecDepth 10000 in
theorem jsonObject_any (a : Option Addr) (len cap : Nat) (xs : List Int) (n i : Nat) (w : World) (hV : ValC a len cap xs n) (hl : len ≤ 1048576) (hi : i < len) (hn : len - i ≤ n + 1) (h : Holds w a len xs) :
    Calls Try.prog 28 #[.slice a len cap, .int .i64 i] w fun e w' => e = .returned (.tuple #[.int .i64 (endN i (objO xs i) : Nat), .bool (okB (objO xs i))]) ∧ Below w.heap.size w w' := by
  have hxl := h.1
  have hst := hide (obj_start xs i)
  have hsb := spE_bd (xs := xs) (k := i + 1) (by omega)
  rw [hxl] at hsb
  generalize objO xs i = O at *
  replace hxl := hide hxl
  replace hV := hide hV
  replace h := hide h
  go_enter Try.func28, Try.ntmps28
  go_wp2_with fail
  rw [show ((i : Int) + 1) = ((i + 1 : Nat) : Int) from by omega]
  refine (jsonSpace_any a len cap xs (i + 1) w hl (by omega) (unhide h)).mono ?_
  rintro e wx ⟨rfl, rfl⟩
  obtain ⟨m, hm⟩ : ∃ m, m = spE xs (i + 1) := ⟨_, rfl⟩
  rw [← hm] at hst hsb ⊢
  clear hm
  obtain ⟨FB, HFB⟩ : ∃ b : Bool, Hid (b = true ↔ m < len ∧ at' xs m = 125) := ⟨decide (m < len ∧ at' xs m = 125), by show _ ↔ _; simp⟩
  go_upto_region 2 with fail
  go_cut [22] (fun t wx => t = .bool FB ∧ w = wx)
  case first =>
    by_cases hp : m < len
    · obtain ⟨b, o, rfl, hb, hc⟩ := (unhide h).2.2.2 m hp
      have hpi : (m : Int) < (len : Int) := by omega
      have e : (at' xs m == 125) = FB := by
        rw [Bool.eq_iff_iff, unhide HFB]
        simp [hp]
      have E := hide e
      clear e
      go_wp2_with fail
      go_meet
      case rel => exact ⟨by rw [← unhide E], rfl⟩
    · have e : FB = false := by
        cases hF : FB
        · rfl
        · exact absurd (unhide HFB |>.1 hF).1 hp
      have E := hide e
      clear e
      go_wp2_with fail
      go_meet
      case rel => exact ⟨by rw [unhide E], rfl⟩
  case rest =>
  obtain ⟨rfl, rfl⟩ := hcut
  cases FB
  case true =>
    have hf := hide (fin_some i O _ ((unhide hst).1 (by rw [unhide hxl]; exact (unhide HFB).1 rfl)))
    go_wp2_with fail
    go_ret2
    exact ⟨ret_pair (by rw [(unhide hf).1]; omega) (unhide hf).2.symm, Below.refl _ _⟩
  have hLp : Hid (Lp xs 2 i m O) := (unhide hst).2 (fun h3 => by have := (unhide HFB).2 (by rw [unhide hxl] at h3; exact h3); cases this)
  clear HFB hst
  go_wp2_with fail
  go_loopw [1] (fun v wr => ∃ k : Nat, i < k ∧ k ≤ len ∧ v = .int .i64 k ∧ Hid (Lp xs 2 i k O) ∧ Below w.heap.size w wr) (fun v _ => len - (intOf v).toNat)
  case atStart => exact ⟨m, by omega, by omega, rfl, hLp, Below.refl _ _⟩
  case round =>
    obtain ⟨k, hik, hkl, rfl, hLk, hbel⟩ := hrel
    have hh := hide ((unhide h).later hbel (Nat.le_refl _))
    clear hLp
    by_cases hklt : k < len
    case neg =>
      have hf := hide (fin_none i O (mem_noquote (unhide hLk) (fun h3 => by rw [unhide hxl] at h3; exact hklt h3.1)))
      go_wp2_with fail
      go_ret2
      exact ⟨ret_pair (unhide hf).1.symm (unhide hf).2.symm, hbel⟩
    obtain ⟨b, o, rfl, hb, hck⟩ := (unhide hh).2.2.2 k hklt
    have hki : (k : Int) < (len : Int) := by omega
    have hkx : k < xs.length := by rw [unhide hxl]; exact hklt
    by_cases c34 : at' xs k = 34
    case neg =>
      have n34 : (at' xs k != 34) = true := by simpa using c34
      have hf := hide (fin_none i O (mem_noquote (unhide hLk) (fun h3 => c34 h3.2)))
      clear c34
      generalize at' xs k = c at *
      go_wp2_with fail
      go_ret2
      exact ⟨ret_pair (unhide hf).1.symm (unhide hf).2.symm, hbel⟩
    have C34 := hide c34
    rw [c34] at hck
    clear c34
    go_wp2_with fail
    refine (jsonString_any _ len cap xs k _ hl hklt (unhide hh)).mono ?_
    rintro e wx ⟨rfl, rfl⟩
    cases hs : strO xs k with
    | none =>
      have hf := hide (fin_none i O (mem_nostr (unhide hLk) hkx (unhide C34) hs))
      rw [show okB none = false from rfl, show endN k none = 0 from rfl]
      clear hs
      go_wp2_with fail
      go_ret2
      exact ⟨ret_pair (unhide hf).1.symm (unhide hf).2.symm, hbel⟩
    | some z =>
      have hM := hide (mem_str (unhide hLk) hkx (unhide C34) hs)
      have hzb := strO_bd hs
      rw [unhide hxl] at hzb
      rw [show okB (some z) = true from rfl, show endN k (some z) = k + z from rfl]
      obtain ⟨e, he⟩ : ∃ e, e = k + z := ⟨_, rfl⟩
      rw [← he] at hM hzb ⊢
      have hke : k ≤ e := by omega
      clear hs he hLk hck
      have heb := spE_bd (xs := xs) (k := e) (by rw [unhide hxl]; omega)
      rw [unhide hxl] at heb
      go_wp2_with fail
      refine (jsonSpace_any _ len cap xs e _ hl (by omega) (unhide hh)).mono ?_
      rintro e' wx ⟨rfl, rfl⟩
      rw [unhide hxl] at hM
      generalize spE xs e = m1 at *
      by_cases hm1 : m1 < len
      case neg =>
        have hf := hide (fin_none i O ((unhide hM).1 (fun h3 => hm1 h3.1)))
        go_wp2_with fail
        go_ret2
        exact ⟨ret_pair (unhide hf).1.symm (unhide hf).2.symm, hbel⟩
      obtain ⟨b', o', hbo, _, hcm⟩ := (unhide hh).2.2.2 m1 hm1
      simp only [Option.some.injEq, Addr.mk.injEq, and_true] at hbo
      obtain ⟨rfl, rfl⟩ := hbo
      have hm1i : (m1 : Int) < (len : Int) := by omega
      by_cases c58 : at' xs m1 = 58
      case neg =>
        have n58 : (at' xs m1 != 58) = true := by simpa using c58
        have hf := hide (fin_none i O ((unhide hM).1 (fun h3 => c58 h3.2)))
        clear c58
        generalize at' xs m1 = c at *
        go_wp2_with fail
        go_ret2
        exact ⟨ret_pair (unhide hf).1.symm (unhide hf).2.symm, hbel⟩
      have hM2 := hide ((unhide hM).2 hm1 c58)
      rw [c58] at hcm
      have hvb := spE_bd (xs := xs) (k := m1 + 1) (by rw [unhide hxl]; omega)
      rw [unhide hxl] at hvb
      clear c58 hM
      go_wp2_with fail
      rw [show ((m1 : Int) + 1) = ((m1 + 1 : Nat) : Int) from by omega]
      refine (jsonSpace_any _ len cap xs (m1 + 1) _ hl (by omega) (unhide hh)).mono ?_
      rintro e' wx ⟨rfl, rfl⟩
      generalize spE xs (m1 + 1) = v at *
      clear hcm
      go_wp2_with fail
      refine (unhide hV v _ (by omega) hvb.2 (unhide hh)).mono ?_
      rintro e' w2 ⟨rfl, hb2⟩
      have hbel2 : Below w.heap.size w w2 := hbel.trans (hb2.mono hbel.size)
      have hh2 := hide ((unhide h).later hbel2 (Nat.le_refl _))
      clear hb2 hbel hh
      cases hv : valO xs v with
      | none =>
        have hf := hide (fin_none i O ((unhide hM2).1 hv))
        rw [show okB none = false from rfl, show endN v none = 0 from rfl]
        clear hv
        go_wp2_with fail
        go_ret2
        exact ⟨ret_pair (unhide hf).1.symm (unhide hf).2.symm, hbel2⟩
      | some y =>
        have hMo := hide ((unhide hM2).2 y hv)
        have hyb := valO_bd hv
        rw [unhide hxl] at hyb
        rw [show okB (some y) = true from rfl, show endN v (some y) = v + y from rfl]
        obtain ⟨e2, he2⟩ : ∃ e, e = v + y := ⟨_, rfl⟩
        rw [← he2] at hMo hyb ⊢
        have hve : v < e2 := by omega
        have hel : e2 ≤ len := hyb.2
        clear hv he2 hyb hM2
        have heb2 := spE_bd (xs := xs) (k := e2) (by rw [unhide hxl]; omega)
        rw [unhide hxl] at heb2
        go_wp2_with fail
        refine (jsonSpace_any _ len cap xs e2 w2 hl (by omega) (unhide hh2)).mono ?_
        rintro e' wx ⟨rfl, rfl⟩
        have f1 := hide (mo_out (unhide hMo))
        have f2 := hide (mo_close (unhide hMo))
        have f3 := hide (mo_bad (unhide hMo))
        have f4 := hide (mo_comma (unhide hMo))
        rw [unhide hxl] at f1 f2 f4
        generalize spE xs e2 = m2 at *
        clear hMo
        by_cases hml : m2 < len
        case neg =>
          have hf := hide (fin_none i O (unhide f1 (by omega)))
          go_wp2_with fail
          go_ret2
          exact ⟨ret_pair (unhide hf).1.symm (unhide hf).2.symm, hbel2⟩
        obtain ⟨b', o', hbo, _, hc⟩ := (unhide hh2).2.2.2 m2 hml
        simp only [Option.some.injEq, Addr.mk.injEq, and_true] at hbo
        obtain ⟨rfl, rfl⟩ := hbo
        have hmi : (m2 : Int) < (len : Int) := by omega
        by_cases c125 : at' xs m2 = 125
        · have hf := hide (fin_some i O _ (unhide f2 hml c125))
          rw [c125] at hc
          clear c125
          go_wp2_with fail
          go_ret2
          exact ⟨ret_pair (by rw [(unhide hf).1]; omega) (unhide hf).2.symm, hbel2⟩
        have n125 : (at' xs m2 == 125) = false := by simpa using c125
        by_cases c44 : at' xs m2 = 44
        · have hL2 := hide (unhide f4 hml c125 c44)
          have hm3 := spE_bd (xs := xs) (k := m2 + 1) (by rw [unhide hxl]; omega)
          rw [unhide hxl] at hm3
          rw [c44] at hc
          clear c125 n125 c44
          go_wp2_with fail
          rw [show ((m2 : Int) + 1) = ((m2 + 1 : Nat) : Int) from by omega]
          refine (jsonSpace_any _ len cap xs (m2 + 1) w2 hl (by omega) (unhide hh2)).mono ?_
          rintro e' wx ⟨rfl, rfl⟩
          generalize spE xs (m2 + 1) = m3 at *
          go_wp2_with fail
          go_roundw
          case rel => exact ⟨m3, by omega, hm3.2, rfl, hL2, hbel2⟩
          case measure => simp [intOf]; omega
        · have n44 : (at' xs m2 != 44) = true := by simpa using c44
          have hf := hide (fin_none i O (unhide f3 c125 c44))
          clear c125 c44
          generalize at' xs m2 = c at *
          go_wp2_with fail
          go_ret2
          exact ⟨ret_pair (unhide hf).1.symm (unhide hf).2.symm, hbel2⟩

/-- One step of the recursion. -/
theorem ret_num {i : Nat} {o o' : Option Nat} (h : o = o') : Ending.returned (.tuple #[.int .i64 (endN i o' : Nat), .bool (okB o')]) = Ending.returned (.tuple #[.int .i64 (endN i o : Nat), .bool (okB o)]) := by rw [h]

theorem bytes_true : bytesOf { data := #[116, 114, 117, 101] } = [116, 114, 117, 101] := by decide
theorem bytes_false : bytesOf { data := #[102, 97, 108, 115, 101] } = [102, 97, 108, 115, 101] := by decide
theorem bytes_null : bytesOf { data := #[110, 117, 108, 108] } = [110, 117, 108, 108] := by decide

set_option maxHeartbeats 3200000 in
set_option maxRecDepth 10000 in
theorem jsonValue_step (a : Option Addr) (len cap : Nat) (xs : List Int) (n i : Nat) (w : World) (hV : ValC a len cap xs n) (hl : len ≤ 1048576) (hi : i < len) (hn : len - i ≤ n + 1) (h : Holds w a len xs) :
    Calls Try.prog 25 #[.slice a len cap, .int .i64 i] w fun e w' => e = .returned (.tuple #[.int .i64 (endN i (valO xs i) : Nat), .bool (okB (valO xs i))]) ∧ Below w.heap.size w w' := by
  have hxl := h.1
  have hat := val_at (xs := xs) (i := i) (by omega)
  obtain ⟨b, o, hab, hb, hcs⟩ := h.cells (by omega)
  have hc := hcs i hi
  clear hcs
  subst hab
  have hii : (i : Int) < (len : Int) := by omega
  replace hV := hide hV
  replace h := hide h
  replace hxl := hide hxl
  generalize valO xs i = V at *
  by_cases c34 : at' xs i = 34
  · have hE : Hid (V = strO xs i) := by show _ = _; rw [hat, if_pos c34]
    rw [c34] at hc
    clear hat c34
    go_enter Try.func25, Try.ntmps25
    go_wp2_with fail
    refine (jsonString_any _ len cap xs i w hl hi (unhide h)).mono ?_
    rintro e w1 ⟨rfl, rfl⟩
    go_wp2_with fail
    go_ret2
    exact ⟨ret_num (unhide hE), Below.refl _ _⟩
  by_cases c123 : at' xs i = 123
  · have hE : Hid (V = objO xs i) := by show _ = _; rw [hat, if_neg c34, if_pos c123]
    rw [c123] at hc
    clear hat c34 c123
    go_enter Try.func25, Try.ntmps25
    go_wp2_with fail
    refine (jsonObject_any _ len cap xs n i w (unhide hV) hl hi hn (unhide h)).mono ?_
    rintro e w1 ⟨rfl, hbel⟩
    go_wp2_with fail
    go_ret2
    exact ⟨ret_num (unhide hE), hbel⟩
  by_cases c91 : at' xs i = 91
  · have hE : Hid (V = arrO xs i) := by show _ = _; rw [hat, if_neg c34, if_neg c123, if_pos c91]
    rw [c91] at hc
    clear hat c34 c123 c91
    go_enter Try.func25, Try.ntmps25
    go_wp2_with fail
    refine (jsonArray_any _ len cap xs n i w (unhide hV) hl hi hn (unhide h)).mono ?_
    rintro e w1 ⟨rfl, hbel⟩
    go_wp2_with fail
    go_ret2
    exact ⟨ret_num (unhide hE), hbel⟩
  by_cases c116 : at' xs i = 116
  · have hE : Hid (V = lit [116, 114, 117, 101] (xs.drop i)) := by show _ = _; rw [hat, if_neg c34, if_neg c123, if_neg c91, if_pos c116]
    rw [c116] at hc
    clear hat c34 c123 c91 c116
    have hlit := jsonLit_any (some ⟨b, o, none⟩) len cap xs i { data := #[116, 114, 117, 101] } w hl hi (by decide) (unhide h)
    rw [bytes_true, ← unhide hE] at hlit
    replace hlit := hide hlit
    go_enter Try.func25, Try.ntmps25
    go_wp2_with fail
    refine (unhide hlit).mono ?_
    rintro e w1 ⟨rfl, hbel⟩
    go_wp2_with fail
    go_ret2
    exact ⟨rfl, hbel⟩
  by_cases c102 : at' xs i = 102
  · have hE : Hid (V = lit [102, 97, 108, 115, 101] (xs.drop i)) := by show _ = _; rw [hat, if_neg c34, if_neg c123, if_neg c91, if_neg c116, if_pos c102]
    rw [c102] at hc
    clear hat c34 c123 c91 c116 c102
    have hlit := jsonLit_any (some ⟨b, o, none⟩) len cap xs i { data := #[102, 97, 108, 115, 101] } w hl hi (by decide) (unhide h)
    rw [bytes_false, ← unhide hE] at hlit
    replace hlit := hide hlit
    go_enter Try.func25, Try.ntmps25
    go_wp2_with fail
    refine (unhide hlit).mono ?_
    rintro e w1 ⟨rfl, hbel⟩
    go_wp2_with fail
    go_ret2
    exact ⟨rfl, hbel⟩
  by_cases c110 : at' xs i = 110
  · have hE : Hid (V = lit [110, 117, 108, 108] (xs.drop i)) := by show _ = _; rw [hat, if_neg c34, if_neg c123, if_neg c91, if_neg c116, if_neg c102, if_pos c110]
    rw [c110] at hc
    clear hat c34 c123 c91 c116 c102 c110
    have hlit := jsonLit_any (some ⟨b, o, none⟩) len cap xs i { data := #[110, 117, 108, 108] } w hl hi (by decide) (unhide h)
    rw [bytes_null, ← unhide hE] at hlit
    replace hlit := hide hlit
    go_enter Try.func25, Try.ntmps25
    go_wp2_with fail
    refine (unhide hlit).mono ?_
    rintro e w1 ⟨rfl, hbel⟩
    go_wp2_with fail
    go_ret2
    exact ⟨rfl, hbel⟩
  rw [if_neg c34, if_neg c123, if_neg c91, if_neg c116, if_neg c102, if_neg c110] at hat
  have n34 : (at' xs i == 34) = false := by simpa using c34
  have n123 : (at' xs i == 123) = false := by simpa using c123
  have n91 : (at' xs i == 91) = false := by simpa using c91
  have n116 : (at' xs i == 116) = false := by simpa using c116
  have n102 : (at' xs i == 102) = false := by simpa using c102
  have n110 : (at' xs i == 110) = false := by simpa using c110
  clear c34 c123 c91 c116 c102 c110
  cases h45 : (at' xs i == 45)
  · by_cases hd : 48 ≤ at' xs i ∧ at' xs i ≤ 57
    · have hE : Hid (V = numO xs i) := by show _ = _; rw [hat, if_pos]; simp [digit]; omega
      have hd1 := hd.1
      have hd2 := hd.2
      clear hat hd
      generalize at' xs i = c at *
      go_enter Try.func25, Try.ntmps25
      go_wp2_with fail
      refine (jsonNumber_any _ len cap xs i w hl hi (unhide h)).mono ?_
      rintro e w1 ⟨rfl, rfl⟩
      go_wp2_with fail
      go_ret2
      exact ⟨ret_num (unhide hE), Below.refl _ _⟩
    · have hE : Hid (V = none) := by show _ = _; rw [hat, if_neg]; rw [h45]; simp [digit]; omega
      clear hat
      generalize at' xs i = c at *
      by_cases h48 : 48 ≤ c
      · have h57 : ¬ c ≤ 57 := fun h => hd ⟨h48, h⟩
        clear hd
        go_enter Try.func25, Try.ntmps25
        go_wp2_with fail
        go_ret2
        exact ⟨ret_num (unhide hE), Below.refl _ _⟩
      · clear hd
        go_enter Try.func25, Try.ntmps25
        go_wp2_with fail
        go_ret2
        exact ⟨ret_num (unhide hE), Below.refl _ _⟩
  · have hE : Hid (V = numO xs i) := by show _ = _; rw [hat, if_pos]; simp [h45]
    clear hat
    generalize at' xs i = c at *
    go_enter Try.func25, Try.ntmps25
    go_wp2_with fail
    refine (jsonNumber_any _ len cap xs i w hl hi (unhide h)).mono ?_
    rintro e w1 ⟨rfl, rfl⟩
    go_wp2_with fail
    go_ret2
    exact ⟨ret_num (unhide hE), Below.refl _ _⟩

theorem jsonValue_out (a : Option Addr) (len cap : Nat) (xs : List Int) (w : World) (_hl : len ≤ 1048576) (h : Holds w a len xs) :
    Calls Try.prog 25 #[.slice a len cap, .int .i64 len] w fun e w' => e = .returned (.tuple #[.int .i64 (endN len (valO xs len) : Nat), .bool (okB (valO xs len))]) ∧ Below w.heap.size w w' := by
  have hE := hide (val_out (xs := xs) (i := len) (by have := h.1; omega))
  generalize valO xs len = V at *
  clear h
  go_enter Try.func25, Try.ntmps25
  go_wp2_with fail
  go_ret2
  exact ⟨ret_num (unhide hE), Below.refl _ _⟩

theorem valC (a : Option Addr) (len cap : Nat) (xs : List Int) (hl : len ≤ 1048576) : ∀ n, ValC a len cap xs n := by
  intro n
  induction n with
  | zero =>
    intro k w hn hk h
    obtain rfl : len = k := by omega
    exact jsonValue_out a len cap xs w hl h
  | succ n ih =>
    intro k w hn hk h
    rcases Nat.lt_or_ge k len with hlt | hge
    · exact jsonValue_step a len cap xs n k w ih hl hlt hn h
    · obtain rfl : len = k := by omega
      exact jsonValue_out a len cap xs w hl h

theorem jsonValue_any (a : Option Addr) (len cap : Nat) (xs : List Int) (k : Nat) (w : World) (hl : len ≤ 1048576) (hk : k ≤ len) (h : Holds w a len xs) :
    Calls Try.prog 25 #[.slice a len cap, .int .i64 k] w fun e w' => e = .returned (.tuple #[.int .i64 (endN k (valO xs k) : Nat), .bool (okB (valO xs k))]) ∧ Below w.heap.size w w' :=
  valC a len cap xs hl len k w (by omega) hk h

end Go.Proofs.Qxb6602184a
