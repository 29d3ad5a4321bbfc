/-
  The walk of 'FnAppendIntMatchesDecimalModel'.
-/
import Derived.Test.Qxb6601794aDecWalk
import Derived.Test.Qxb6601794aClone
import Derived.Test.Qxb6601794aMatch
import Derived.Deep.QuietTactic
import Derived.BigQuiet
namespace Go.Proofs.Qxb6601794a
open Go.RowKit

theorem bytes10_any (a : Option Addr) (len cap : Nat) (x width pad : Int) (w : World) (hm : len ≤ maxLen) :
    Calls Try.prog 10 #[.slice a len cap, .int .i64 x, .int .i64 width, .int .u8 pad] w fun e w' => e = .returned (.bool (decide (len ≤ 1048576))) ∧ w = w' := by
  unfold maxLen at hm
  by_cases h : len ≤ 1048576
  · go_enter Try.func10, Try.ntmps10
    go_wp2_with fail
    go_ret
    exact ⟨by simp [h], rfl⟩
  · go_enter Try.func10, Try.ntmps10
    go_wp2_with fail
    go_ret
    exact ⟨by simp [h], rfl⟩

theorem u64_neg {x : Int} (h : x < 0) (h0 : -9223372036854775808 ≤ x) : IntKind.u64.wrap (-IntKind.u64.wrap x) = (absN x : Int) := by
  simp only [IntKind.wrap, IntKind.bits, IntKind.signed, absN, Bool.false_and]
  have e : (2 : Int) ^ 64 = 18446744073709551616 := by decide
  simp only [e]
  simp
  omega

theorem minus_min {x : Int} (h0 : -9223372036854775808 ≤ x) (hneg : x < 0) : decide (wrap64 (-x) < 0) = decide (x = -9223372036854775808) := by
  unfold wrap64
  rw [decide_eq_decide]
  omega

/-- The slice that was appended to still holds its bytes. -/
theorem holds_grew {w w' : World} {base n n' : Nat} {v v' : Value} {xs : List Int} (h : w.ownsRow base 5 1 v n (xs.map (Value.int .u8))) (hb : ∀ c ∈ xs, 0 ≤ c ∧ c ≤ 255) (hg : Grew w w' v v' n n') :
    ∃ a cap, v = .slice a n cap ∧ Holds w' a n xs := by
  obtain ⟨a, cap, rfl, hh⟩ := holds_of_owns h hb
  refine ⟨a, cap, rfl, hh.1, hh.2.1, hh.2.2.1, fun j hj => ?_⟩
  obtain ⟨b, o, e, hlt, hc⟩ := hh.2.2.2 j hj
  have ho : o = 0 := by
    rcases h.2 with ⟨h1, h2⟩ | ⟨g, cap', cur, h1, _⟩
    · omega
    · subst e
      simp at h1
      omega
  subst ho
  refine ⟨b, 0, e, Nat.lt_of_lt_of_le hlt hg.size, ?_⟩
  rw [hg.cell b (0 + j) hlt (fun _ => by omega)]
  exact hc

set_option maxHeartbeats 1600000 in
set_option maxRecDepth 10000 in
theorem matches3 (a : Option Addr) (len cap : Nat) (xs : List Int) (x width pad : Int) (w : World) (hlen : len ≤ 1048576) (h : Holds w a len xs)
    (hx0 : -9223372036854775808 ≤ x) (hx : x ≤ 9223372036854775807) (hw : width ≤ 65536) :
    Calls Try.prog 3 #[.slice a len cap, .int .i64 x, .int .i64 width, .int .u8 pad] w fun e w' => e = .returned (.bool true) ∧ Below w.heap.size w w' := by
  have hxl := h.1
  go_enter Try.func3, Try.ntmps3
  go_wp2_with fail
  refine (bytes10_any a len cap x width pad w (by unfold maxLen; omega)).mono ?_
  rintro e w0 ⟨rfl, rfl⟩
  have hd : decide (len ≤ 1048576) = true := by simp [hlen]
  rw [hd]
  go_wp2_with fail
  refine (clone_any a len cap xs w hlen h).mono ?_
  rintro e w1 ⟨v1, rfl, hown1, hbel1⟩
  go_wp2_with fail
  refine (zzAppendInt_any w.heap.size v1 len xs x width pad w1 hx0 hx hw hlen hown1 hbel1.size).mono ?_
  rintro e w2 ⟨v2, rfl, hown2, hgr2⟩
  obtain ⟨a1, c1, rfl, hold⟩ := holds_grew hown1 h.2.1 hgr2
  have hlenT := text_len x width pad
  obtain ⟨g2, cap2, rfl, -, hlt2⟩ := hown2.form (by have := text_pos x width pad; omega)
  have hgot := hide (own_cell hown2)
  have hbel2 : Below w.heap.size w w2 := hbel1.trans (hgr2.below hbel1.size (fun g hg => (hown1.lt g hg).1))
  clear hown1 hown2 hgr2 hbel1
  have hLp : 0 < (digs 19 (mag x)).length := digs_pos 18 _
  have hLl := digs_length_le 19 (mag x)
  have hsl := sgn_le x
  -- names for the parts
  have F1 := hide (fun k (hk : k < len) => got_head xs x width pad (k := k) (by omega))
  have F2 := hide (got_sign xs x width pad)
  have F3 := hide (fun k => got_pad xs x width pad (k := k))
  have F4 := hide (fun k => got_dig xs x width pad (k := k))
  have F5 := hide (digs_mag x hx0)
  have hPw : (width.toNat - (digs 19 (mag x)).length : Nat) ≤ 65536 := by omega
  obtain ⟨NG, HNG⟩ : ∃ b, Hid (b = decide (x < 0)) := ⟨_, rfl⟩
  have HS : Hid ((sgn x).length = if NG then 1 else 0) := by
    show (sgn x).length = _
    rw [unhide HNG]
    unfold sgn
    split <;> simp_all
  rw [hxl] at F2 F3 F4
  rw [hlenT] at hgot ⊢
  clear hlenT h
  generalize xs ++ text x width pad = G at *
  have HP : Hid (width.toNat - (digs 19 (mag x)).length = if ((digs 19 (mag x)).length : Int) < width then (width - (digs 19 (mag x)).length).toNat else 0) := by
    show width.toNat - (digs 19 (mag x)).length = _
    split <;> omega
  generalize width.toNat - (digs 19 (mag x)).length = P at *
  generalize digs 19 (mag x) = D at *
  generalize (sgn x).length = S at *
  go_upto_if 40 with fail
  go_cut [10, 11] (fun b m wr => b = .bool NG ∧ m = .int .u64 (absN x : Nat) ∧ w2 = wr)
  case first =>
    by_cases hneg : x < 0
    · go_wp2_with fail
      go_meet
      case rel => exact ⟨by rw [unhide HNG], by rw [u64_neg hneg hx0], rfl⟩
    · have e : (absN x : Int) = x := by unfold absN; omega
      have E := hide e
      clear e
      go_wp2_with fail
      go_meet
      case rel => exact ⟨by rw [unhide HNG], by rw [unhide E], rfl⟩
  case rest =>
  obtain ⟨rfl, rfl, rfl⟩ := hcut
  go_wp2_with fail
  refine (zzDecimal_any (absN x) w2 (by unfold absN; omega)).mono ?_
  rintro e w3 ⟨v3, rfl, hown3, hbel3⟩
  obtain ⟨g3, cap3, rfl, hg3, -⟩ := hown3.form (digs_pos 18 _)
  have hdig := digs_digit 19 (absN x : Int) (by omega)
  generalize digs 19 (absN x : Int) = D0 at *
  have eL : D0.length = D.length := by rw [unhide F5]; split <;> simp
  rw [eL] at hown3 ⊢
  have EL := hide eL
  have hdig := hide hdig
  clear eL
  obtain ⟨MN, HMN⟩ : ∃ b, Hid (b = decide (x = -9223372036854775808)) := ⟨_, rfl⟩
  go_upto_region 15 with fail
  go_cut [53] (fun t wr => t = .bool MN ∧ w3 = wr)
  case first =>
    cases NG
    · have hneg : ¬ x < 0 := by have := (unhide HNG).symm; simpa using this
      have e : MN = false := by rw [unhide HMN]; simp; omega
      have E := hide e
      clear e
      go_wp2_with fail
      go_meet
      case rel => exact ⟨by rw [unhide E], rfl⟩
    · have hneg : x < 0 := by have := (unhide HNG).symm; simpa using this
      have HM := hide (minus_min hx0 hneg)
      go_wp2_with fail
      go_meet
      case rel => exact ⟨by rw [unhide HM, unhide HMN], rfl⟩
  case rest =>
  obtain ⟨rfl, rfl⟩ := hcut
  go_upto_if 53 with fail
  go_cut [13] (fun _ wr => wr.ownsRow w2.heap.size 5 1 (.slice (some ⟨g3, 0, none⟩) D.length cap3) D.length (D.map (Value.int .u8)) ∧ Below w2.heap.size w2 wr)
  case first =>
    cases MN
    case true =>
      have hmin : x = -9223372036854775808 := by have := (unhide HMN).symm; simpa using this
      have eD : D = D0.map (96 - ·) := by have := unhide F5; rw [if_pos hmin] at this; exact this
      have ED := hide eD
      clear eD hmin
      go_wp2_with fail
      go_loopw [13] (fun i wr => ∃ k : Nat, k ≤ D.length ∧ i = .int .i64 k ∧ wr.ownsRow w2.heap.size 5 1 (.slice (some ⟨g3, 0, none⟩) D.length cap3) D.length ((mix D0 k).map (Value.int .u8)) ∧ Below w2.heap.size w2 wr) (fun i _ => D.length - (intOf i).toNat)
      case atStart => exact ⟨0, by omega, rfl, by rw [mix_zero]; exact hown3, hbel3⟩
      case round =>
        obtain ⟨k, hk, rfl, hown, hbel⟩ := hrel
        by_cases hlt : k < D.length
        · have hlt0 : k < D0.length := by rw [unhide EL]; exact hlt
          have hc := own_cell hown k hlt
          rw [mix_at D0 k hlt0] at hc
          have hf : wr.frozen? ⟨g3, k, none⟩ = false := hown.frozenAt k
          have hcb : 48 ≤ at' D0 k ∧ at' D0 k ≤ 57 := unhide hdig _ (by unfold at'; rw [getD_get hlt0]; exact List.getElem_mem hlt0)
          have R := hown.stored k (.int .u8 (96 - at' D0 k))
          rw [← List.map_set, mix_set D0 k hlt0] at R
          have HR := hide R.1
          have HB := hide (hbel.setCell (p := ⟨g3, k, none⟩) hg3 (.int .u8 (96 - at' D0 k)))
          clear R hown
          go_wp2_with fail
          go_roundw
          case rel => exact ⟨k + 1, by omega, by go_num, unhide HR, unhide HB⟩
          case measure => simp [intOf]; omega
        · have hkl : k = D.length := by omega
          have e : mix D0 k = D := by rw [hkl, ← unhide EL, mix_end, unhide ED]
          rw [e] at hown
          have hown := hide hown
          clear e hkl
          go_wp2_with fail
          go_meet
          case rel => exact ⟨unhide hown, hbel⟩
    case false =>
      have hmin : ¬ x = -9223372036854775808 := by have := (unhide HMN).symm; simpa using this
      have eD : D = D0 := by have := unhide F5; rw [if_neg hmin] at this; exact this
      have hown3 := hide hown3
      have ED := hide eD
      clear eD hmin
      go_wp2_with fail
      go_meet
      case rel =>
        have hown := unhide hown3
        have eD := unhide ED
        rw [← eD] at hown
        exact ⟨hown, hbel3⟩
  case rest =>
  obtain ⟨hown4, hbel4⟩ := hcut
  have hgot4 := hide (fun j (hj : j < len + (S + P + D.length)) => (hbel4.cell (p := ⟨g2, j, none⟩) hlt2).trans (unhide hgot j hj))
  have hold4 := hide (hold.later hbel4 (Nat.le_refl _))
  have hdec4 := hide (own_cell hown4)
  have hg2 : g2 < wc.heap.size := Nat.lt_of_lt_of_le hlt2 hbel4.size
  have hg3' : g3 < wc.heap.size := (hown4.lt g3 rfl).2
  have hbel5 := hide (hbel2.trans (hbel4.mono hbel2.size))
  clear hown4 hbel4 hbel2 hold hgot hown3 hbel3 hdig
  go_upto_if 71 with fail
  go_cut [14] (fun p wr => p = .int .i64 P ∧ wc = wr)
  case first =>
    have hP := unhide HP
    by_cases hlt : (D.length : Int) < width
    · have e : (P : Int) = width - D.length := by rw [if_pos hlt] at hP; omega
      have E := hide e
      clear e hP
      go_wp2_with fail
      go_meet
      case rel => exact ⟨by rw [unhide E], rfl⟩
    · have e : P = 0 := by rw [if_neg hlt] at hP; exact hP
      have E := hide e
      clear e hP
      go_wp2_with fail
      go_meet
      case rel => exact ⟨by rw [unhide E]; rfl, rfl⟩
  case rest =>
  obtain ⟨rfl, rfl⟩ := hcut
  go_upto_if 76 with fail
  go_cut [15] (fun p wr => p = .int .i64 S ∧ wc = wr)
  case first =>
    have e : S = if NG then 1 else 0 := unhide HS
    cases NG
    · have E := hide e
      clear e
      go_wp2_with fail
      go_meet
      case rel => exact ⟨by rw [unhide E]; rfl, rfl⟩
    · have E := hide e
      clear e
      go_wp2_with fail
      go_meet
      case rel => exact ⟨by rw [unhide E]; rfl, rfl⟩
  case rest =>
  obtain ⟨rfl, rfl⟩ := hcut
  generalize D.length = L at *
  have hne : (((len : Int) + ((S : Int) + P + L)) != (len : Int) + S + P + L) = false := by simp; omega
  go_wp2_with fail
  clear hne
  go_loopw [16, 17] (fun k i wr => ∃ j : Nat, j ≤ len ∧ k = .int .i64 j ∧ i = .int .i64 j ∧ Below wc.heap.size wc wr) (fun _ i _ => len - (intOf i).toNat)
  case atStart => exact ⟨0, by omega, rfl, rfl, Below.refl _ _⟩
  case round =>
    obtain ⟨j, hj, rfl, rfl, hbel⟩ := hrel
    by_cases hlt : j < len
    · obtain ⟨b, o, rfl, hb, hc⟩ := (unhide hold4).2.2.2 j hlt
      have hcd : wr.cell? ⟨b, o + j, none⟩ = some (.int .u8 (at' xs j)) := (hbel.cell (p := ⟨b, o + j, none⟩) hb).trans hc
      have hcg : wr.cell? ⟨g2, j, none⟩ = some (.int .u8 (at' xs j)) := by
        rw [hbel.cell (p := ⟨g2, j, none⟩) hg2, unhide hgot4 j (by omega), unhide F1 j hlt]
      clear hc
      generalize at' xs j = c at *
      have hb1 : (j : Int) < (len : Int) + ((S : Int) + P + L) := by omega
      have hb2 : (j : Int) < (len : Int) := by omega
      have hb3 : (0 : Int) ≤ (j : Int) := by omega
      go_wp2_with fail
      go_quiet (fail)
      go_wp2_with fail
      go_roundw
      case rel => exact ⟨j + 1, by omega, by go_num, by go_num, below_drewN hbel _⟩
      case measure => simp [intOf]; omega
    · obtain rfl : len = j := by omega
      have hcg : ∀ q, q < len + (S + P + L) → wr.cell? ⟨g2, q, none⟩ = some (.int .u8 (at' G q)) := fun q hq => (hbel.cell (p := ⟨g2, q, none⟩) hg2).trans (unhide hgot4 q hq)
      have hcd : ∀ q, q < L → wr.cell? ⟨g3, q, none⟩ = some (.int .u8 (at' D q)) := fun q hq => (hbel.cell (p := ⟨g3, q, none⟩) hg3').trans (unhide hdec4 q hq)
      have hbel6 : Below w.heap.size w wr := (unhide hbel5).trans (hbel.mono (unhide hbel5).size)
      have hg2r : g2 < wr.heap.size := Nat.lt_of_lt_of_le hg2 hbel.size
      have hg3r : g3 < wr.heap.size := Nat.lt_of_lt_of_le hg3' hbel.size
      clear hbel hbel5
      have hcg := hide hcg
      have hcd := hide hcd
      have hbel6 := hide hbel6
      go_upto_if 106 with fail
      go_cut [16] (fun k wx => k = .int .i64 ((len : Int) + S) ∧ wr = wx)
      case first =>
        have e : S = if NG then 1 else 0 := unhide HS
        cases NG
        · have E := hide e
          clear e
          go_wp2_with fail
          go_meet
          case rel => exact ⟨by rw [unhide E]; simp, rfl⟩
        · have hneg : x < 0 := by have := (unhide HNG).symm; simpa using this
          have e2 : S = 1 := by simpa using e
          have hc : wr.cell? ⟨g2, len, none⟩ = some (.int .u8 45) := by rw [unhide hcg len (by omega), unhide F2 hneg]
          have hb1 : (len : Int) < (len : Int) + ((S : Int) + P + L) := by omega
          have E := hide e2
          clear e e2
          go_wp2_with fail
          go_meet
          case rel => exact ⟨by rw [unhide E]; rfl, rfl⟩
      case rest =>
      obtain ⟨rfl, rfl⟩ := hcut
      go_wp2_with fail
      go_loop [16, 18] (fun k i => ∃ q : Nat, q ≤ P ∧ k = .int .i64 ((len : Int) + S + q) ∧ i = .int .i64 q) (fun _ i => P - (intOf i).toNat)
      case atStart => exact ⟨0, by omega, by go_num, rfl⟩
      case round =>
        obtain ⟨q, hq, rfl, rfl⟩ := hrel
        by_cases hlt : q < P
        · have hc : wr.cell? ⟨g2, len + S + q, none⟩ = some (.int .u8 pad) := by rw [unhide hcg _ (by omega), unhide F3 q hlt]
          have hb1 : (len : Int) + S + q < (len : Int) + ((S : Int) + P + L) := by omega
          go_wp2_with fail
          go_round
          case rel => exact ⟨q + 1, by omega, by go_num, by go_num⟩
          case measure => simp [intOf]; omega
        · obtain rfl : P = q := by omega
          go_wp2_with fail
          go_loopw [16, 19] (fun k i wx => ∃ z : Nat, z ≤ L ∧ k = .int .i64 ((len : Int) + S + P + z) ∧ i = .int .i64 z ∧ Below wr.heap.size wr wx) (fun _ i _ => L - (intOf i).toNat)
          case atStart => exact ⟨0, by omega, by go_num, rfl, Below.refl _ _⟩
          case round =>
            obtain ⟨z, hz, rfl, rfl, hbel7⟩ := hrel
            by_cases hlt : z < L
            · have hc1 := (hbel7.cell (p := ⟨g2, len + S + P + z, none⟩) hg2r).trans (unhide hcg _ (by omega))
              rw [unhide F4 z] at hc1
              have hc2 := (hbel7.cell (p := ⟨g3, z, none⟩) hg3r).trans (unhide hcd z hlt)
              generalize at' D z = c at *
              have hb1 : (len : Int) + S + P + z < (len : Int) + ((S : Int) + P + L) := by omega
              have hb0 : (0 : Int) ≤ (len : Int) + S + P + z := by omega
              have hb2 : (z : Int) < (L : Int) := by omega
              have hb3 : (0 : Int) ≤ (z : Int) := by omega
              go_wp2_with fail
              go_quiet (fail)
              go_wp2_with fail
              go_roundw
              case rel => exact ⟨z + 1, by omega, by go_num, by go_num, below_drewN hbel7 _⟩
              case measure => simp [intOf]; omega
            · go_wp2_with fail
              go_ret
              exact ⟨rfl, (unhide hbel6).trans (hbel7.mono (unhide hbel6).size)⟩

end Go.Proofs.Qxb6601794a
