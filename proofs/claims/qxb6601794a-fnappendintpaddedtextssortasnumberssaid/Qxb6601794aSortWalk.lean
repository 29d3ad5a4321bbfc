/-
  The walks of zzCompareBytes (at two slices of one length) and of 'FnAppendIntPaddedTextsSortAsNumbers'.
-/
import Derived.Test.Qxb6601794aDecWalk
import Derived.Test.Qxb6601794aReadsWalk
import Derived.Test.Qxb6601794aSort
import Derived.Deep.QuietTactic
import Derived.BigQuiet
namespace Go.Proofs.Qxb6601794a
open Go.RowKit

set_option maxHeartbeats 800000 in
theorem zzCompare_any (A B : List Int) (L ga gb ca cb : Nat) (w : World) (hA : A.length = L) (hB : B.length = L) (hL : L ≤ 1000000) (hga : ga < w.heap.size) (hgb : gb < w.heap.size)
    (cA : ∀ j, j < L → w.cell? ⟨ga, j, none⟩ = some (.int .u8 (at' A j))) (cB : ∀ j, j < L → w.cell? ⟨gb, j, none⟩ = some (.int .u8 (at' B j))) :
    Calls Try.prog 15 #[.slice (some ⟨ga, 0, none⟩) L ca, .slice (some ⟨gb, 0, none⟩) L cb] w fun e w' => e = .returned (.int .i64 (cmp A B)) ∧ Below w.heap.size w w' := by
  go_enter Try.func15, Try.ntmps15
  go_wp2_with fail
  go_loopw [6] (fun i wr => ∃ k : Nat, k ≤ L ∧ i = .int .i64 k ∧ Hid (cmp (A.drop k) (B.drop k) = cmp A B) ∧ Below w.heap.size w wr) (fun i _ => L - (intOf i).toNat)
  case atStart => exact ⟨0, by omega, rfl, rfl, Below.refl _ _⟩
  case round =>
    obtain ⟨k, hk, rfl, hc, hbel⟩ := hrel
    by_cases hlt : k < L
    · have c1 : wr.cell? ⟨ga, k, none⟩ = some (.int .u8 (at' A k)) := (hbel.cell hga).trans (cA k hlt)
      have c2 : wr.cell? ⟨gb, k, none⟩ = some (.int .u8 (at' B k)) := (hbel.cell hgb).trans (cB k hlt)
      have HA : Hid (A.drop k = at' A k :: A.drop (k + 1)) := drop_cons_getD (by omega)
      have HB : Hid (B.drop k = at' B k :: B.drop (k + 1)) := drop_cons_getD (by omega)
      generalize at' A k = a at *
      generalize at' B k = b at *
      have hlt1 : (k : Int) < (L : Int) := by omega
      have hk0 : (0 : Int) ≤ (k : Int) := by omega
      rcases Int.lt_trichotomy a b with h | h | h
      · have HC : Hid (cmp A B = -1) := by show cmp A B = -1; rw [← hc.out, HA.out, HB.out, cmp, if_pos h]
        go_wp2_with fail
        go_quiet (fail)
        go_wp2_with fail
        go_ret
        exact ⟨by rw [HC.out]; rfl, below_drewN hbel _⟩
      · subst h
        have HC : Hid (cmp (A.drop (k + 1)) (B.drop (k + 1)) = cmp A B) := by show cmp _ _ = _; rw [← hc.out, HA.out, HB.out, cmp]; simp
        go_wp2_with fail
        go_quiet (fail)
        go_wp2_with fail
        go_quiet (fail)
        go_wp2_with fail
        go_roundw
        case rel => exact ⟨k + 1, by omega, by go_num, HC, by simpa using below_drewN hbel _⟩
        case measure => simp [intOf]; omega
      · have hna : ¬ a < b := by omega
        have HC : Hid (cmp A B = 1) := by show cmp A B = 1; rw [← hc.out, HA.out, HB.out, cmp, if_neg hna, if_pos h]
        go_wp2_with fail
        go_quiet (fail)
        go_wp2_with fail
        go_quiet (fail)
        go_wp2_with fail
        go_ret
        exact ⟨by rw [HC.out]; rfl, by simpa using below_drewN hbel _⟩
    · have HC : Hid (cmp A B = 0) := by
        show cmp A B = 0
        rw [← hc.out, List.drop_of_length_le (by omega), List.drop_of_length_le (by omega)]
        rfl
      go_wp2_with fail
      go_ret
      exact ⟨by rw [HC.out]; rfl, hbel⟩

set_option maxHeartbeats 800000 in
set_option maxRecDepth 10000 in
theorem sorts (a b width pad : Int) (w : World) (ha0 : 0 ≤ a) (ha : a ≤ 9223372036854775807) (hb0 : 0 ≤ b) (hb : b ≤ 9223372036854775807) (hw : width ≤ 65536) (hp : pad ≤ 48) :
    Calls Try.prog 5 #[.int .i64 a, .int .i64 b, .int .i64 width, .int .u8 pad] w fun e w' => e = .returned (.bool true) ∧ Below w.heap.size w w' := by
  go_enter Try.func5, Try.ntmps5
  go_wp2_with fail
  refine (zzTextWidth_any a width w ha0 ha).mono ?_
  rintro e w1 ⟨rfl, hb1⟩
  go_wp2_with fail
  refine (zzTextWidth_any b width w1 hb0 hb).mono ?_
  rintro e w2 ⟨rfl, hb2⟩
  have hbel2 : Below w.heap.size w w2 := hb1.trans (hb2.mono hb1.size)
  clear hb1 hb2
  by_cases hwd : textWidth a width = textWidth b width
  case neg =>
    have hne : (textWidth a width != textWidth b width) = true := by simpa using hwd
    clear hwd
    go_wp2_with fail
    go_ret
    exact ⟨rfl, hbel2⟩
  have hlen := text_len_of_width width pad ha0 hb0 hwd
  have HC : Hid (cmp (text a width pad) (text b width pad) = sg a b) := cmp_text width pad ha0 hb0 ha hb hp hlen
  have hne : (textWidth a width != textWidth b width) = false := by simpa using hwd
  clear hwd
  go_wp2_with fail
  refine (zzAppendInt_any w2.heap.size _ 0 [] a width pad w2 (by omega) ha hw (by omega) (World.ownsRow_nil _ _ _ _) (Nat.le_refl _)).mono ?_
  rintro e w3 ⟨v1, rfl, hown1, hgr1⟩
  simp only [Nat.zero_add, List.nil_append] at hown1
  obtain ⟨g1, cap1, rfl, -, hlt1⟩ := hown1.form (text_pos a width pad)
  have hbel3 : Below w2.heap.size w2 w3 := hgr1.below (Nat.le_refl _) (fun g h => by simp [Value.ownBlock] at h)
  have hc1 := own_cell hown1
  clear hgr1 hown1
  go_wp2_with fail
  refine (zzAppendInt_any w3.heap.size _ 0 [] b width pad w3 (by omega) hb hw (by omega) (World.ownsRow_nil _ _ _ _) (Nat.le_refl _)).mono ?_
  rintro e w4 ⟨v2, rfl, hown2, hgr2⟩
  simp only [Nat.zero_add, List.nil_append] at hown2
  obtain ⟨g2, cap2, rfl, -, hlt2⟩ := hown2.form (text_pos b width pad)
  have hbel4 : Below w3.heap.size w3 w4 := hgr2.below (Nat.le_refl _) (fun g h => by simp [Value.ownBlock] at h)
  have hc2 := own_cell hown2
  clear hgr2 hown2
  have hc1' : ∀ j, j < (text a width pad).length → w4.cell? ⟨g1, j, none⟩ = some (.int .u8 (at' (text a width pad) j)) := fun j hj => (hbel4.cell hlt1).trans (hc1 j hj)
  have hbel5 : Below w.heap.size w w4 := (hbel2.trans (hbel3.mono hbel2.size)).trans (hbel4.mono (Nat.le_trans hbel2.size hbel3.size))
  have hle := text_le a width pad hw
  have hle4 : w3.heap.size ≤ w4.heap.size := hbel4.size
  clear hc1 hbel2 hbel3 hbel4
  generalize text a width pad = Ta at *
  generalize text b width pad = Tb at *
  rw [← hlen] at hc2 ⊢
  have Hl : Hid (Tb.length = Ta.length) := hlen.symm
  clear hlen
  go_upto_if 39 with fail
  go_cut [11] (fun t wr => t = .int .i64 (sg a b) ∧ w4 = wr)
  case first =>
    rcases Int.lt_trichotomy a b with h | h | h
    · have HS : Hid (sg a b = -1) := by show sg a b = -1; simp [sg, h]
      go_wp2_with fail
      go_meet
      case rel => exact ⟨by rw [HS.out], rfl⟩
    · have HS : Hid (sg a b = 0) := by show sg a b = 0; simp [sg, h]
      have h1 : ¬ a < b := by omega
      have h2 : ¬ b < a := by omega
      clear h
      go_wp2_with fail
      go_meet
      case rel => exact ⟨by rw [HS.out], rfl⟩
    · have h1 : ¬ a < b := by omega
      have HS : Hid (sg a b = 1) := by show sg a b = 1; simp [sg, h, h1]
      go_wp2_with fail
      go_meet
      case rel => exact ⟨by rw [HS.out], rfl⟩
  case rest =>
    obtain ⟨rfl, rfl⟩ := hcut
    go_wp2_with fail
    refine (zzCompare_any Ta Tb Ta.length g1 g2 cap1 cap2 w4 rfl Hl.out (by omega) (by omega) hlt2 hc1' hc2).mono ?_
    rintro e w5 ⟨rfl, hb5⟩
    rw [HC.out]
    go_wp2_with fail
    go_ret
    exact ⟨by simp, hbel5.trans (hb5.mono hbel5.size)⟩

end Go.Proofs.Qxb6601794a
