/-
  The walks of jsonNumber and jsonLit.
-/
import Derived.Test.Qxb6602184aLeaf
namespace Go.Proofs.Qxb6602184a
open Go.RowKit

theorem get_iff {xs : List Int} {p : Nat} {c : Int} : xs[p]? = some c ↔ p < xs.length ∧ at' xs p = c := by
  constructor
  · intro h
    have h1 := lt_of_get h
    refine ⟨h1, ?_⟩
    unfold at'
    simp [List.getD, h]
  · rintro ⟨h1, rfl⟩
    unfold at'
    simp [List.getD, h1]
theorem get_drop {xs : List Int} {p m : Nat} : (xs.drop p)[m]? = xs[p + m]? := List.getElem?_drop

/-- A number from i on. -/
def numO (xs : List Int) (i : Nat) : Option Nat := num (xs.drop i)
/-- Behind its integer part, at p. -/
def NumA (xs : List Int) (i p : Nat) (o : Option Nat) : Prop := i ≤ p ∧ o = (frac (xs.drop p)).bind fun b => (expo (xs.drop (p + b))).map (· + (p + b - i))
/-- Behind its fraction, at p. -/
def NumB (xs : List Int) (i p : Nat) (o : Option Nat) : Prop := i ≤ p ∧ o = (expo (xs.drop p)).map (· + (p - i))

theorem minus_at {xs : List Int} {i : Nat} (hi : i < xs.length) : minus (xs.drop i) = if at' xs i = 45 then 1 else 0 := by
  unfold minus
  rw [get_drop, Nat.add_zero]
  by_cases h : at' xs i = 45
  · rw [if_pos h, if_pos (get_iff.2 ⟨hi, h⟩)]
  · rw [if_neg h, if_neg (fun h2 => h (get_iff.1 h2).2)]
theorem num_none {xs : List Int} {i : Nat} (h : ip (xs.drop (i + minus (xs.drop i))) = none) : numO xs i = none := by
  unfold numO num
  rw [List.drop_drop, h]
theorem num_int {xs : List Int} {i a : Nat} (h : ip (xs.drop (i + minus (xs.drop i))) = some a) : NumA xs i (i + minus (xs.drop i) + a) (numO xs i) := by
  refine ⟨by omega, ?_⟩
  unfold numO num
  rw [List.drop_drop, h]
  simp only
  rw [List.drop_drop, Nat.add_assoc]
  cases frac (xs.drop (i + (minus (xs.drop i) + a))) with
  | none => rfl
  | some b =>
    simp only [Option.bind_some]
    rw [List.drop_drop]
    have e1 : i + (minus (xs.drop i) + a + b) = i + (minus (xs.drop i) + a) + b := by omega
    rw [e1]
    congr 1
    funext n
    omega
theorem ip_end {xs : List Int} {p : Nat} (h : xs.length ≤ p) : ip (xs.drop p) = none := by
  rw [List.drop_of_length_le h]
  rfl
theorem ip_zero {xs : List Int} {p : Nat} (h : p < xs.length) (hc : at' xs p = 48) : ip (xs.drop p) = some 1 := by
  unfold ip
  rw [get_drop, Nat.add_zero, if_pos (get_iff.2 ⟨h, hc⟩)]
theorem ip_dig {xs : List Int} {p : Nat} (h : p < xs.length) (h1 : 49 ≤ at' xs p) (h2 : at' xs p ≤ 57) : ∃ a, ip (xs.drop p) = some a ∧ p + a = dgE xs (p + 1) := by
  refine ⟨1 + dg (xs.drop (p + 1)), ?_, by unfold dgE; omega⟩
  unfold ip
  rw [get_drop, Nat.add_zero, if_neg (fun h3 => by have := (get_iff.1 h3).2; omega), at_drop, Nat.add_zero, if_pos, List.drop_drop]
  simp [digit]
  omega
theorem ip_bad {xs : List Int} {p : Nat} (h1 : ¬ at' xs p = 48) (h2 : ¬ (49 ≤ at' xs p ∧ at' xs p ≤ 57)) : ip (xs.drop p) = none := by
  unfold ip
  rw [get_drop, Nat.add_zero, if_neg (fun h3 => h1 (get_iff.1 h3).2), at_drop, Nat.add_zero, if_neg]
  simp [digit]
  omega

theorem numA_dot {xs : List Int} {i p : Nat} {o : Option Nat} (h : NumA xs i p o) (hp : p < xs.length) (hc : at' xs p = 46) : (dgE xs (p + 1) = p + 1 → o = none) ∧ (¬ dgE xs (p + 1) = p + 1 → NumB xs i (dgE xs (p + 1)) o) := by
  have h1 := h.2
  unfold frac at h1
  rw [get_drop, Nat.add_zero, if_pos (get_iff.2 ⟨hp, hc⟩), List.drop_drop] at h1
  unfold dgE
  constructor
  · intro e
    rw [if_pos (by omega)] at h1
    exact h1
  · intro e
    rw [if_neg (by omega)] at h1
    have := h.1
    refine ⟨by omega, ?_⟩
    rw [h1]
    simp only [Option.bind_some]
    have e2 : p + (1 + dg (xs.drop (p + 1))) = p + 1 + dg (xs.drop (p + 1)) := by omega
    rw [e2]
theorem numA_no {xs : List Int} {i p : Nat} {o : Option Nat} (h : NumA xs i p o) (hc : ¬ (p < xs.length ∧ at' xs p = 46)) : NumB xs i p o := by
  have h1 := h.2
  unfold frac at h1
  rw [get_drop, Nat.add_zero, if_neg (fun h3 => hc (get_iff.1 h3))] at h1
  exact ⟨h.1, by rw [h1]; rfl⟩
theorem expS_at (xs : List Int) (p : Nat) : expS (xs.drop p) = if p + 1 < xs.length ∧ (at' xs (p + 1) = 43 ∨ at' xs (p + 1) = 45) then 2 else 1 := by
  unfold expS
  rw [get_drop]
  by_cases h : p + 1 < xs.length ∧ (at' xs (p + 1) = 43 ∨ at' xs (p + 1) = 45)
  · rw [if_pos h, if_pos]
    rcases h with ⟨h1, h2 | h2⟩
    · exact .inl (get_iff.2 ⟨h1, h2⟩)
    · exact .inr (get_iff.2 ⟨h1, h2⟩)
  · rw [if_neg h, if_neg]
    intro h2
    rcases h2 with h2 | h2
    · exact h ⟨(get_iff.1 h2).1, .inl (get_iff.1 h2).2⟩
    · exact h ⟨(get_iff.1 h2).1, .inr (get_iff.1 h2).2⟩
theorem numB_e {xs : List Int} {i p : Nat} {o : Option Nat} (h : NumB xs i p o) (hp : p < xs.length) (hc : at' xs p = 101 ∨ at' xs p = 69) :
    (dgE xs (p + expS (xs.drop p)) = p + expS (xs.drop p) → o = none) ∧ (¬ dgE xs (p + expS (xs.drop p)) = p + expS (xs.drop p) → o = some (dgE xs (p + expS (xs.drop p)) - i)) := by
  have h1 := h.2
  have h0 := h.1
  unfold expo at h1
  rw [get_drop, Nat.add_zero, if_pos (hc.elim (fun e => .inl (get_iff.2 ⟨hp, e⟩)) (fun e => .inr (get_iff.2 ⟨hp, e⟩))), List.drop_drop] at h1
  unfold dgE
  constructor
  · intro e
    rw [if_pos (by omega)] at h1
    exact h1
  · intro e
    rw [if_neg (by omega)] at h1
    rw [h1]
    simp
    omega
theorem numB_no {xs : List Int} {i p : Nat} {o : Option Nat} (h : NumB xs i p o) (hc : ¬ (p < xs.length ∧ (at' xs p = 101 ∨ at' xs p = 69))) : o = some (p - i) := by
  have h1 := h.2
  unfold expo at h1
  rw [get_drop, Nat.add_zero, if_neg] at h1
  · rw [h1]; simp
  · intro h3
    rcases h3 with h3 | h3
    · exact hc ⟨(get_iff.1 h3).1, .inl (get_iff.1 h3).2⟩
    · exact hc ⟨(get_iff.1 h3).1, .inr (get_iff.1 h3).2⟩
theorem dgE_bd {xs : List Int} {k : Nat} (h : k ≤ xs.length) : k ≤ dgE xs k ∧ dgE xs k ≤ xs.length := by
  have := dg_le (xs.drop k)
  rw [List.length_drop] at this
  unfold dgE
  omega

set_option maxHeartbeats 1600000 in
set_option maxRecDepth 10000 in
theorem jsonNumber_any (a : Option Addr) (len cap : Nat) (xs : List Int) (i : Nat) (w : World) (hl : len ≤ 1048576) (hi : i < len) (h : Holds w a len xs) :
    Calls Try.prog 31 #[.slice a len cap, .int .i64 i] w fun e w' => e = .returned (.tuple #[.int .i64 (endN i (numO xs i) : Nat), .bool (okB (numO xs i))]) ∧ w = w' := by
  have hxl := h.1
  have fin0 : Hid (∀ o, o = none → ((endN i o : Nat) : Int) = 0 ∧ okB o = false) := by intro o ho; subst ho; exact ⟨rfl, rfl⟩
  have fin1 : Hid (∀ o n, o = some n → ((endN i o : Nat) : Int) = i + n ∧ okB o = true) := by intro o n ho; subst ho; exact ⟨by simp [endN], rfl⟩
  have hm := minus_at (xs := xs) (i := i) (by omega)
  obtain ⟨p0, hp0⟩ : ∃ p, p = i + minus (xs.drop i) := ⟨_, rfl⟩
  have g1 := num_none (xs := xs) (i := i)
  have g2 := fun a => num_int (xs := xs) (i := i) (a := a)
  rw [← hp0] at g1 g2
  have hp0' : p0 = if at' xs i = 45 then i + 1 else i := by rw [hp0, hm]; split <;> rfl
  have hpb : p0 = i ∨ p0 = i + 1 := by rw [hp0']; split <;> omega
  clear hm hp0
  generalize numO xs i = O at *
  replace g1 := hide g1
  replace g2 := hide g2
  replace hxl := hide hxl
  obtain ⟨b, o, rfl, hb, hc⟩ := h.cells (by omega)
  replace hc := hide hc
  replace h := hide h
  replace hp0' := hide hp0'
  have hii : (i : Int) < (len : Int) := by omega
  go_enter Try.func31, Try.ntmps31
  go_upto_region 1 with fail
  have hci := unhide hc i hi
  go_upto_if 12 with fail
  go_cut [1, 12] (fun v _ wx => v = .int .i64 p0 ∧ w = wx)
  case first =>
    cases h45 : (at' xs i == 45)
    · have e : p0 = i := by rw [unhide hp0', if_neg (by simpa using h45)]
      have E := hide e
      clear e hpb
      go_wp2_with fail
      go_meet
      case rel => exact ⟨by rw [unhide E], rfl⟩
    · have e : p0 = i + 1 := by rw [unhide hp0', if_pos (by simpa using h45)]
      have E := hide e
      clear e hpb
      go_wp2_with fail
      go_meet
      case rel => exact ⟨by rw [unhide E]; go_num, rfl⟩
  case rest =>
  obtain ⟨rfl, rfl⟩ := hcut
  clear hci hp0'
  have hip : i ≤ p0 := by omega
  by_cases hpl : p0 < len
  case neg =>
    have hn := hide (unhide fin0 O (unhide g1 (ip_end (by rw [unhide hxl]; omega))))
    go_wp2_with fail
    go_ret2
    exact ⟨ret_pair (unhide hn).1.symm (unhide hn).2.symm, rfl⟩
  have hpx : p0 < xs.length := by rw [unhide hxl]; exact hpl
  have hcp := unhide hc p0 hpl
  clear hpb
  go_upto_if 23 with fail
  go_cut [1, 23] (fun v _ wx => ∃ p : Nat, p ≤ len ∧ v = .int .i64 p ∧ NumA xs i p O ∧ w = wx)
  case first =>
    cases h48 : (at' xs p0 == 48)
    · have n48 : ¬ at' xs p0 = 48 := by simpa using h48
      by_cases hdg : 49 ≤ at' xs p0 ∧ at' xs p0 ≤ 57
      · obtain ⟨a, ha, hae⟩ := ip_dig hpx hdg.1 hdg.2
        have hA := unhide g2 a ha
        rw [hae] at hA
        have hdb := dgE_bd (xs := xs) (k := p0 + 1) (by omega)
        rw [unhide hxl] at hdb
        replace hA := hide hA
        have hd1 := hdg.1
        have hd2 := hdg.2
        clear ha hae n48 hdg
        generalize at' xs p0 = c at *
        go_wp2_with fail
        rw [show ((p0 : Int) + 1) = ((p0 + 1 : Nat) : Int) from by omega]
        refine (jsonDigits_any _ len cap xs (p0 + 1) w hl (by omega) (unhide h)).mono ?_
        rintro e wx ⟨rfl, rfl⟩
        go_wp2_with fail
        go_meet
        case rel => exact ⟨dgE xs (p0 + 1), hdb.2, rfl, unhide hA, rfl⟩
      · have hn := hide (unhide fin0 O (unhide g1 (ip_bad n48 hdg)))
        by_cases h49 : 49 ≤ at' xs p0
        · have h57 : ¬ at' xs p0 ≤ 57 := fun h => hdg ⟨h49, h⟩
          clear n48 hdg
          generalize at' xs p0 = c at *
          go_wp2_with fail
          go_ret2
          exact ⟨ret_pair (unhide hn).1.symm (unhide hn).2.symm, rfl⟩
        · clear n48 hdg
          generalize at' xs p0 = c at *
          go_wp2_with fail
          go_ret2
          exact ⟨ret_pair (unhide hn).1.symm (unhide hn).2.symm, rfl⟩
    · have hA := hide (unhide g2 1 (ip_zero hpx (by simpa using h48)))
      generalize at' xs p0 = c at *
      go_wp2_with fail
      go_meet
      case rel => exact ⟨p0 + 1, by omega, by go_num, unhide hA, rfl⟩
  case rest =>
  obtain ⟨p, hpl2, rfl, hA, rfl⟩ := hcut
  replace hA := hide hA
  clear hcp g1 g2
  obtain ⟨FB, HFB⟩ : ∃ b : Bool, Hid (b = true ↔ p < len ∧ at' xs p = 46) := ⟨decide (p < len ∧ at' xs p = 46), by show _ ↔ _; simp⟩
  go_upto_region 10 with fail
  go_cut [52] (fun t wx => t = .bool FB ∧ w = wx)
  case first =>
    by_cases hp : p < len
    · have hcp := unhide hc p hp
      have hpi : (p : Int) < (len : Int) := by omega
      have e : (at' xs p == 46) = FB := by
        rw [Bool.eq_iff_iff, unhide HFB]
        simp [hp]
      have E := hide e
      clear e
      go_wp2_with fail
      go_meet
      case rel => exact ⟨by rw [← unhide E], rfl⟩
    · have e : FB = false := by
        cases hF : FB
        · rfl
        · exact absurd (unhide HFB |>.1 hF).1 hp
      have E := hide e
      clear e
      go_wp2_with fail
      go_meet
      case rel => exact ⟨by rw [unhide E], rfl⟩
  case rest =>
  obtain ⟨rfl, rfl⟩ := hcut
  go_upto_if 52 with fail
  go_cut [1, 6] (fun v _ wx => ∃ q : Nat, q ≤ len ∧ v = .int .i64 q ∧ NumB xs i q O ∧ w = wx)
  case first =>
    cases FB
    · have hB := hide (numA_no (unhide hA) (fun h3 => by have := (unhide HFB).2 (by rw [unhide hxl] at h3; exact h3); cases this))
      go_wp2_with fail
      go_meet
      case rel => exact ⟨p, hpl2, rfl, unhide hB, rfl⟩
    · obtain ⟨hp, hp46⟩ := (unhide HFB).1 rfl
      have hB := hide (numA_dot (unhide hA) (by rw [unhide hxl]; exact hp) hp46)
      have hdb := dgE_bd (xs := xs) (k := p + 1) (by rw [unhide hxl]; omega)
      rw [unhide hxl] at hdb
      clear hp46
      go_wp2_with fail
      rw [show ((p : Int) + 1) = ((p + 1 : Nat) : Int) from by omega]
      refine (jsonDigits_any _ len cap xs (p + 1) w hl (by omega) (unhide h)).mono ?_
      rintro e wx ⟨rfl, rfl⟩
      generalize dgE xs (p + 1) = q at *
      cases hq : ((q : Int) == (p : Int) + 1)
      · have hn := hide ((unhide hB).2 (fun e => by subst e; simp at hq))
        go_wp2_with fail
        go_meet
        case rel => exact ⟨q, hdb.2, rfl, unhide hn, rfl⟩
      · have hn := hide (unhide fin0 O ((unhide hB).1 (by simp at hq; omega)))
        go_wp2_with fail
        go_ret2
        exact ⟨ret_pair (unhide hn).1.symm (unhide hn).2.symm, rfl⟩
  case rest =>
  obtain ⟨q, hql, rfl, hB, rfl⟩ := hcut
  replace hB := hide hB
  clear hA HFB
  obtain ⟨EB, HEB⟩ : ∃ b : Bool, Hid (b = true ↔ q < len ∧ (at' xs q = 101 ∨ at' xs q = 69)) := ⟨decide (q < len ∧ (at' xs q = 101 ∨ at' xs q = 69)), by show _ ↔ _; simp⟩
  go_upto_region 15 with fail
  go_cut [79] (fun t wx => t = .bool EB ∧ w = wx)
  case first =>
    by_cases hp : q < len
    · have hcp := unhide hc q hp
      have hpi : (q : Int) < (len : Int) := by omega
      have e : ((at' xs q == 101) || (at' xs q == 69)) = EB := by
        rw [Bool.eq_iff_iff, unhide HEB]
        simp [hp]
      have E := hide e
      clear e
      generalize at' xs q = c at *
      cases h101 : (c == 101)
      · go_wp2_with fail
        go_meet
        case rel => exact ⟨by rw [← unhide E, h101]; rfl, rfl⟩
      · go_wp2_with fail
        go_meet
        case rel => exact ⟨by rw [← unhide E, h101]; rfl, rfl⟩
    · have e : EB = false := by
        cases hF : EB
        · rfl
        · exact absurd (unhide HEB |>.1 hF).1 hp
      have E := hide e
      clear e
      go_wp2_with fail
      go_meet
      case rel => exact ⟨by rw [unhide E], rfl⟩
  case rest =>
  obtain ⟨rfl, rfl⟩ := hcut
  have hqi : i ≤ q := (unhide hB).1
  cases EB
  · have hn := hide (unhide fin1 O _ (numB_no (unhide hB) (fun h3 => by have := (unhide HEB).2 (by rw [unhide hxl] at h3; exact h3); cases this)))
    go_wp2_with fail
    go_ret2
    exact ⟨ret_pair (by rw [(unhide hn).1]; omega) (unhide hn).2.symm, rfl⟩
  · obtain ⟨hq, hq2⟩ := (unhide HEB).1 rfl
    have hE := numB_e (unhide hB) (by rw [unhide hxl]; exact hq) hq2
    have hS := expS_at xs q
    rw [unhide hxl] at hS
    have hSb : expS (xs.drop q) = 1 ∨ expS (xs.drop q) = 2 := by rw [hS]; split <;> omega
    generalize expS (xs.drop q) = S at *
    replace hS := hide hS
    replace hE := hide hE
    obtain ⟨SB, HSB⟩ : ∃ b : Bool, Hid (b = true ↔ q + 1 < len ∧ (at' xs (q + 1) = 43 ∨ at' xs (q + 1) = 45)) := ⟨decide (q + 1 < len ∧ (at' xs (q + 1) = 43 ∨ at' xs (q + 1) = 45)), by show _ ↔ _; simp⟩
    clear hq2 HEB hB
    go_upto_region 17 with fail
    go_cut [99] (fun t wx => t = .bool SB ∧ w = wx)
    case first =>
      clear hSb
      by_cases hp : q + 1 < len
      · have hcp := unhide hc (q + 1) hp
        have hpi : (q : Int) + 1 < (len : Int) := by omega
        have e : ((at' xs (q + 1) == 43) || (at' xs (q + 1) == 45)) = SB := by
          rw [Bool.eq_iff_iff, unhide HSB]
          simp [hp]
        have E := hide e
        clear e
        generalize at' xs (q + 1) = c at *
        cases h43 : (c == 43)
        · go_wp2_with fail
          go_meet
          case rel => exact ⟨by rw [← unhide E, h43]; rfl, rfl⟩
        · go_wp2_with fail
          go_meet
          case rel => exact ⟨by rw [← unhide E, h43]; rfl, rfl⟩
      · have e : SB = false := by
          cases hF : SB
          · rfl
          · exact absurd (unhide HSB |>.1 hF).1 hp
        have E := hide e
        clear e
        go_wp2_with fail
        go_meet
        case rel => exact ⟨by rw [unhide E], rfl⟩
    case rest =>
    obtain ⟨rfl, rfl⟩ := hcut
    go_upto_if 99 with fail
    go_cut [1, 99] (fun v _ wx => v = .int .i64 (q + S : Nat) ∧ q + S ≤ len ∧ w = wx)
    case first =>
      cases SB
      · have e : S = 1 := by
          rw [unhide hS, if_neg]
          intro h3
          have := (unhide HSB).2 h3
          cases this
        have E := hide e
        clear e hSb
        go_wp2_with fail
        go_meet
        case rel => exact ⟨by rw [unhide E]; go_num, by rw [unhide E]; omega, rfl⟩
      · have h3 := (unhide HSB).1 rfl
        have e : S = 2 := by rw [unhide hS, if_pos h3]
        have h31 := h3.1
        have E := hide e
        clear e hSb h3
        go_wp2_with fail
        go_meet
        case rel => exact ⟨by rw [unhide E]; go_num, by rw [unhide E]; omega, rfl⟩
    case rest =>
    obtain ⟨rfl, hqS, rfl⟩ := hcut
    have hdb := dgE_bd (xs := xs) (k := q + S) (by rw [unhide hxl]; omega)
    rw [unhide hxl] at hdb
    clear hSb hS HSB
    obtain ⟨r, hr⟩ : ∃ r, r = q + S := ⟨_, rfl⟩
    rw [← hr] at hE hqS hdb ⊢
    have hrq : q ≤ r := by omega
    clear hr
    go_wp2_with fail
    refine (jsonDigits_any _ len cap xs r w hl hqS (unhide h)).mono ?_
    rintro e wx ⟨rfl, rfl⟩
    generalize dgE xs r = z at *
    cases hz : ((z : Int) == (r : Int))
    · have hn := hide (unhide fin1 O _ ((unhide hE).2 (fun e => by subst e; simp at hz)))
      go_wp2_with fail
      go_ret2
      exact ⟨ret_pair (by rw [(unhide hn).1]; omega) (unhide hn).2.symm, rfl⟩
    · have hn := hide (unhide fin0 O ((unhide hE).1 (by simp at hz; omega)))
      go_wp2_with fail
      go_ret2
      exact ⟨ret_pair (unhide hn).1.symm (unhide hn).2.symm, rfl⟩

end Go.Proofs.Qxb6602184a
