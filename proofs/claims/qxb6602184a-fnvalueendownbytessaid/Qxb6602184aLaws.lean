/-
  The walks of valueInDomain, 'FnValueEndSpec', 'FnValueEndOwnBytes'.
-/
import Derived.Test.Qxb6602184aEnd
import Derived.Test.Qxb6602184aValue
namespace Go.Proofs.Qxb6602184a
open Go.RowKit

/-- The domain's tests, in valueInDomain's order. -/
def domA (xs : List Int) (i n : Nat) : Bool := at' xs i == 34 || at' xs i == 123 || at' xs i == 91 || (((i + n : Nat) : Int) == (xs.length : Int))
def domO (xs : List Int) (i : Nat) : Option Nat := (valO xs i).bind fun n => if domA xs i n || delim (at' xs (i + n)) then some n else none

theorem domO_none {xs : List Int} {i : Nat} (h : valO xs i = none) : domO xs i = none := by rw [domO, h]; rfl
theorem domO_yes {xs : List Int} {i n : Nat} (h : valO xs i = some n) (hd : (domA xs i n || delim (at' xs (i + n))) = true) : domO xs i = some n := by
  rw [domO, h]
  simp only [Option.bind_some]
  rw [if_pos hd]
theorem domO_no {xs : List Int} {i n : Nat} (h : valO xs i = some n) (hd : (domA xs i n || delim (at' xs (i + n))) = false) : domO xs i = none := by
  rw [domO, h]
  simp only [Option.bind_some]
  rw [if_neg (by simp [hd])]

theorem ve_of_dom {xs : List Int} {i n : Nat} (h : domO xs i = some n) : valO xs i = some n ∧ ve (xs.drop i) = some n := by
  unfold domO at h
  obtain ⟨m, hm, h⟩ := Option.bind_eq_some_iff.1 h
  split at h
  · rename_i hd
    cases h
    refine ⟨hm, ve_of_G hm ?_⟩
    have hb := valO_bd hm
    unfold dom
    rw [at_drop, Nat.add_zero, List.length_drop, at_drop]
    simp only [domA, Bool.or_eq_true, beq_iff_eq] at hd
    rcases hd with (((hd | hd) | hd) | hd) | hd
    · exact .inl hd
    · exact .inr (.inl hd)
    · exact .inr (.inr (.inl hd))
    · exact .inr (.inr (.inr (.inl (by omega))))
    · exact .inr (.inr (.inr (.inr hd)))
  · cases h

theorem inDomain_out (a : Option Addr) (len cap : Nat) (x : Int) (w : World) (_hl : len ≤ 1048576) (hx : x < 0 ∨ (len : Int) ≤ x) :
    Calls Try.prog 19 #[.slice a len cap, .int .i64 x] w fun e w' => e = .returned (.tuple #[.int .i64 0, .bool false]) ∧ w = w' := by
  by_cases hneg : x < 0
  · clear hx
    go_enter Try.func19, Try.ntmps19
    go_wp2_with fail
    go_ret2
    exact ⟨rfl, rfl⟩
  · have hge : (len : Int) ≤ x := by omega
    clear hx
    go_enter Try.func19, Try.ntmps19
    go_wp2_with fail
    go_ret2
    exact ⟨rfl, rfl⟩

set_option maxHeartbeats 1600000 in
set_option maxRecDepth 10000 in
theorem inDomain_any (a : Option Addr) (len cap : Nat) (xs : List Int) (i : Nat) (w : World) (hl : len ≤ 1048576) (hi : i < len) (h : Holds w a len xs) :
    Calls Try.prog 19 #[.slice a len cap, .int .i64 i] w fun e w' => e = .returned (.tuple #[.int .i64 (endN i (domO xs i) : Nat), .bool (okB (domO xs i))]) ∧ Below w.heap.size w w' := by
  have hxl := hide h.1
  have hii : (i : Int) < (len : Int) := by omega
  have g1 := hide (domO_none (xs := xs) (i := i))
  have g2 := hide (fun n => domO_yes (xs := xs) (i := i) (n := n))
  have g3 := hide (fun n => domO_no (xs := xs) (i := i) (n := n))
  generalize domO xs i = O at *
  obtain ⟨b, o, rfl, hb, hc⟩ := h.cells (by omega)
  replace hc := hide hc
  replace h := hide h
  go_enter Try.func19, Try.ntmps19
  go_wp2_with fail
  refine (jsonValue_any _ len cap xs i w hl (by omega) (unhide h)).mono ?_
  rintro e w1 ⟨rfl, hbel⟩
  cases hv : valO xs i with
  | none =>
    have hf := hide (fin_none i O (unhide g1 hv))
    rw [show okB none = false from rfl, show endN i none = 0 from rfl]
    clear hv
    go_wp2_with fail
    go_ret2
    exact ⟨ret_pair (unhide hf).1.symm (unhide hf).2.symm, hbel⟩
  | some n =>
    have f2 := hide (fun hd => fin_some i O n (unhide g2 n hv hd))
    have f3 := hide (fun hd => fin_none i O (unhide g3 n hv hd))
    have hnb := valO_bd hv
    rw [unhide hxl] at hnb
    rw [show okB (some n) = true from rfl, show endN i (some n) = i + n from rfl]
    clear hv g1 g2 g3
    have hci := (hbel.cell (p := ⟨b, o + i, none⟩) hb).trans (unhide hc i hi)
    have hce := hide (fun hlt => (hbel.cell (p := ⟨b, o + (i + n), none⟩) hb).trans (unhide hc (i + n) hlt))
    have hA : Hid (domA xs i n = (at' xs i == 34 || at' xs i == 123 || at' xs i == 91 || (((i + n : Nat) : Int) == (len : Int)))) := by show _ = _; unfold domA; rw [unhide hxl]
    obtain ⟨e, he⟩ : ∃ e, e = i + n := ⟨_, rfl⟩
    rw [← he] at f2 f3 hce hA hnb ⊢
    have hie : ((e : Nat) : Int) = i + n := by omega
    have HE := hide hie
    have hel : e ≤ len := hnb.2
    clear he hie hnb
    generalize domA xs i n = B at *
    generalize at' xs i = c at *
    go_upto_region 7 with fail
    go_cut [45] (fun t wx => t = .bool B ∧ w1 = wx)
    case first =>
      cases h34 : (c == 34)
      · cases h123 : (c == 123)
        · cases h91 : (c == 91)
          · go_wp2_with fail
            go_meet
            case rel => exact ⟨by rw [unhide hA, h34, h123, h91]; simp, rfl⟩
          · go_wp2_with fail
            go_meet
            case rel => exact ⟨by rw [unhide hA, h34, h123, h91]; simp, rfl⟩
        · go_wp2_with fail
          go_meet
          case rel => exact ⟨by rw [unhide hA, h34, h123]; simp, rfl⟩
      · go_wp2_with fail
        go_meet
        case rel => exact ⟨by rw [unhide hA, h34]; simp, rfl⟩
    case rest =>
    obtain ⟨rfl, rfl⟩ := hcut
    cases B
    case true =>
      have hf := hide (unhide f2 (by simp))
      go_wp2_with fail
      go_ret2
      exact ⟨ret_pair (by rw [(unhide hf).1, unhide HE]) (unhide hf).2.symm, hbel⟩
    have hlt : e < len := by
      have h1 := unhide hA
      simp at h1
      omega
    have hcf := unhide hce hlt
    have hei : (e : Int) < (len : Int) := by omega
    generalize at' xs e = d at *
    clear hA hce hci
    go_upto_region 10 with fail
    go_cut [64] (fun t wx => t = .bool (delim d) ∧ w1 = wx)
    case first =>
      clear f2 f3
      cases h44 : (d == 44)
      · cases h125 : (d == 125)
        · cases h93 : (d == 93)
          · go_wp2_with fail
            refine (isWS_any _ _).mono ?_
            rintro e' wx ⟨rfl, rfl⟩
            go_wp2_with fail
            go_meet
            case rel => exact ⟨by simp [delim, h44, h125, h93], rfl⟩
          · go_wp2_with fail
            go_meet
            case rel => exact ⟨by simp [delim, h44, h125, h93], rfl⟩
        · go_wp2_with fail
          go_meet
          case rel => exact ⟨by simp [delim, h44, h125], rfl⟩
      · go_wp2_with fail
        go_meet
        case rel => exact ⟨by simp [delim, h44], rfl⟩
    case rest =>
    obtain ⟨rfl, rfl⟩ := hcut
    cases hdl : delim d
    · have hf := hide (unhide f3 (by simp [hdl]))
      go_wp2_with fail
      go_ret2
      exact ⟨ret_pair (unhide hf).1.symm (unhide hf).2.symm, hbel⟩
    · have hf := hide (unhide f2 (by simp [hdl]))
      go_wp2_with fail
      go_ret2
      exact ⟨ret_pair (by rw [(unhide hf).1, unhide HE]) (unhide hf).2.symm, hbel⟩

theorem bytes18_any (a : Option Addr) (len cap : Nat) (x : Int) (w : World) (hm : len ≤ maxLen) :
    Calls Try.prog 18 #[.slice a len cap, .int .i64 x] w fun e w' => e = .returned (.bool (decide (len ≤ 1048576))) ∧ w = w' := by
  unfold maxLen at hm
  by_cases h : len ≤ 1048576
  · go_enter Try.func18, Try.ntmps18
    go_wp2_with fail
    go_ret
    exact ⟨by simp [h], rfl⟩
  · go_enter Try.func18, Try.ntmps18
    go_wp2_with fail
    go_ret
    exact ⟨by simp [h], rfl⟩
theorem bytes21_any (a : Option Addr) (len cap : Nat) (x : Int) (w : World) (hm : len ≤ maxLen) :
    Calls Try.prog 21 #[.slice a len cap, .int .i64 x] w fun e w' => e = .returned (.bool (decide (len ≤ 1048576))) ∧ w = w' := by
  unfold maxLen at hm
  by_cases h : len ≤ 1048576
  · go_enter Try.func21, Try.ntmps21
    go_wp2_with fail
    go_ret
    exact ⟨by simp [h], rfl⟩
  · go_enter Try.func21, Try.ntmps21
    go_wp2_with fail
    go_ret
    exact ⟨by simp [h], rfl⟩

set_option maxHeartbeats 800000 in
set_option maxRecDepth 10000 in
theorem specLaw (a : Option Addr) (len cap : Nat) (xs : List Int) (x : Int) (w : World) (hl : len ≤ 65536) (h : Holds w a len xs) :
    Calls Try.prog 7 #[.slice a len cap, .int .i64 x] w fun e w' => e = .returned (.bool true) ∧ Below w.heap.size w w' := by
  have hd : decide (len ≤ 1048576) = true := by simp; omega
  go_enter Try.func7, Try.ntmps7
  go_wp2_with fail
  refine (bytes18_any a len cap x w (by unfold maxLen; omega)).mono ?_
  rintro e w0 ⟨rfl, rfl⟩
  rw [hd]
  clear hd
  go_wp2_with fail
  refine (clone_any a len cap xs w (by omega) h).mono ?_
  rintro e w1 ⟨a1, c1, rfl, hc1, hold, hbel⟩
  clear h
  replace hold := hide hold
  by_cases hx : x < 0 ∨ (len : Int) ≤ x
  · go_wp2_with fail
    refine (inDomain_out a1 len c1 x w1 (by omega) hx).mono ?_
    rintro e wx ⟨rfl, rfl⟩
    clear hx
    go_wp2_with fail
    go_ret
    exact ⟨rfl, hbel⟩
  · obtain ⟨i, rfl⟩ := Int.eq_ofNat_of_zero_le (show 0 ≤ x by omega)
    have hi : i < len := by omega
    clear hx
    go_wp2_with fail
    refine (inDomain_any a1 len c1 xs i w1 (by omega) hi (unhide hold)).mono ?_
    rintro e w2 ⟨rfl, hb2⟩
    have hbel2 : Below w.heap.size w w2 := hbel.trans (hb2.mono hbel.size)
    have hold2 := hide ((unhide hold).later hb2 (Nat.le_refl _))
    clear hb2 hbel
    cases hdo : domO xs i with
    | none =>
      rw [show okB none = false from rfl, show endN i none = 0 from rfl]
      clear hdo
      go_wp2_with fail
      go_ret
      exact ⟨rfl, hbel2⟩
    | some n =>
      have hve := ve_of_dom hdo
      rw [show okB (some n) = true from rfl, show endN i (some n) = i + n from rfl]
      clear hdo
      go_wp2_with fail
      refine (zzValueEnd_any a1 len c1 xs i n w2 (by omega) (unhide hold2) hi hve.2).mono ?_
      rintro e wx ⟨rfl, rfl⟩
      clear hve
      go_wp2_with fail
      go_ret
      exact ⟨by simp, hbel2⟩

end Go.Proofs.Qxb6602184a
