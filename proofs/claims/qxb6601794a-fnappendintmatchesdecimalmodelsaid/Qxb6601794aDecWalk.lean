/-
  The walk of zzDecimal.
-/
import Derived.Test.Qxb6601794aAppendInt
import Derived.Test.Qxb6601794aDec
import Derived.Deep.AppendLies
namespace Go.Proofs.Qxb6601794a
open Go.RowKit

theorem pow_step {P k U : Nat} (h : P = 10 ^ k ∧ (k = 0 ∨ 10 ^ k ≤ U)) (hle : P ≤ U / 10) : P * 10 = 10 ^ (k + 1) ∧ (k + 1 = 0 ∨ 10 ^ (k + 1) ≤ U) := by
  have : 10 ^ (k + 1) = P * 10 := by rw [Nat.pow_succ, ← h.1]
  omega

theorem pow_len {P k U : Nat} (h : P = 10 ^ k ∧ (k = 0 ∨ 10 ^ k ≤ U)) (hle : ¬ P ≤ U / 10) : Len (k + 1) U := by
  have : 10 ^ (k + 1) = P * 10 := by rw [Nat.pow_succ, ← h.1]
  refine ⟨by omega, by omega, ?_⟩
  rcases h.2 with h | h
  · exact .inl (by omega)
  · exact .inr (by simpa using h)

theorem div_parts (r Q : Nat) (hr : r ≤ 9223372036854775808) : ∃ D : Nat, D = r / Q ∧ IntKind.u64.wrap ((r : Int) / (Q : Int)) = (D : Int) ∧ (D : Int) * (Q : Int) ≤ r ∧ 0 ≤ (D : Int) * (Q : Int) ∧ ((r % Q : Nat) : Int) = r - (D : Int) * (Q : Int) := by
  refine ⟨r / Q, rfl, ?_, ?_, ?_, ?_⟩
  · have h1 : r / Q ≤ r := Nat.div_le_self r Q
    have h2 : (r : Int) / (Q : Int) = ((r / Q : Nat) : Int) := by simp
    rw [h2]
    generalize r / Q = D at *
    exact IntWalk.u64_in _ (by omega)
  · rw [← Int.natCast_mul]; have := Nat.div_mul_le_self r Q; omega
  · rw [← Int.natCast_mul]; omega
  · rw [← Int.natCast_mul]
    have h1 := Nat.div_add_mod r Q
    rw [Nat.mul_comm] at h1
    omega

theorem ten_down {Q i : Nat} (h : Q = 10 ^ i) : (i = 0 ∧ Q / 10 = 0) ∨ (0 < i ∧ Q / 10 = 10 ^ (i - 1)) := by
  cases i with
  | zero => left; simp at h; omega
  | succ i => right; rw [Nat.pow_succ] at h; simp; omega

theorem rest_len {k r U : Nat} {out : List Int} (h : Rest k r U out) : out.length ≤ 19 := by
  have h1 := digs_length_le 19 (U : Int)
  rw [h.2] at h1
  simp at h1
  omega

set_option maxHeartbeats 800000 in
theorem zzDecimal_any (U : Nat) (w : World) (hU : U ≤ 9223372036854775808) :
    Calls Try.prog 13 #[.int .u64 U] w fun e w' => ∃ v, e = .returned v ∧ w'.ownsRow w.heap.size 5 1 v (digs 19 U).length ((digs 19 U).map (Value.int .u8)) ∧ Below w.heap.size w w' := by
  obtain ⟨i0, hi, hz0, hz1, hz2⟩ := info_parts Try.info5
  go_enter Try.func13, Try.ntmps13
  go_wp2_with fail
  go_loop [3] (fun p => ∃ (P k : Nat), p = .int .u64 P ∧ 0 < P ∧ P ≤ 9223372036854775808 ∧ Hid (P = 10 ^ k ∧ (k = 0 ∨ 10 ^ k ≤ U))) (fun p => 9223372036854775809 - (intOf p).toNat)
  case atStart => exact ⟨1, 0, rfl, by omega, by omega, ⟨rfl, .inl rfl⟩⟩
  case round =>
    obtain ⟨P, k, rfl, hP0, hP1, hP⟩ := hrel
    by_cases hle : P ≤ U / 10
    · go_wp2_with fail
      go_round
      case rel => exact ⟨P * 10, k + 1, by go_num, by omega, by omega, pow_step hP.out hle⟩
      case measure => simp [intOf]; omega
    · have HL : Hid (Len (k + 1) U) := pow_len hP.out hle
      have HP : Hid (P = 10 ^ k) := hP.out.1
      clear hP
      go_wp2_with (first | (at_make; refine wpList_make_own _ rfl _ _ 22 (by rfl) w.heap.size 5 i0 (.int .u8 0) 1 Try.underlying22 hi hz0 hz1 .i64 .i64 20 20 rfl rfl (by omega) (by rw [hz2]; omega) (by unfold maxLen; omega) (Nat.le_refl _) ?_; intro w1 hown1 hgr1))
      go_loopw [0, 3, 4] (fun u p v wr => ∃ (j r Q : Nat) (out : List Int), u = .int .u64 r ∧ p = .int .u64 Q ∧ r ≤ 9223372036854775808 ∧ Q ≤ 9223372036854775808 ∧ Hid ((j = 0 ∧ Q = 0) ∨ (0 < j ∧ Q = 10 ^ (j - 1))) ∧ Hid (Rest j r U out) ∧ wr.ownsRow w.heap.size 5 1 v out.length (out.map (Value.int .u8)) ∧ Below w.heap.size w wr) (fun _ p _ _ => (intOf p).toNat)
      case atStart => exact ⟨k + 1, U, P, [], rfl, rfl, hU, hP1, .inr ⟨by omega, HP.out⟩, rest_start HL.out hU, hown1, (Below.refl _ _).grown hgr1 (Nat.le_refl _) (by intro k h; cases h)⟩
      case round =>
        obtain ⟨j, r, Q, out, rfl, rfl, hr, hQ, hj, hrest, hown, hbel⟩ := hrel
        have hol := rest_len hrest.out
        by_cases hQ0 : 0 < Q
        · obtain ⟨i, rfl⟩ : ∃ i, j = i + 1 := ⟨j - 1, by rcases hj.out with h | h <;> omega⟩
          have HQ : Hid (Q = 10 ^ i) := by
            show Q = 10 ^ i
            rcases hj.out with h | h
            · omega
            · simpa using h.2
          have hst := rest_step hrest.out
          rw [← HQ.out] at hst
          have hd9 : r / Q ≤ 9 := hst.2
          obtain ⟨D, hD, hwD, hDQ, hD0, hmod⟩ : ∃ D : Nat, D = r / Q ∧ IntKind.u64.wrap ((r : Int) / (Q : Int)) = (D : Int) ∧ (D : Int) * (Q : Int) ≤ r ∧ 0 ≤ (D : Int) * (Q : Int) ∧ ((r % Q : Nat) : Int) = r - (D : Int) * (Q : Int) := div_parts r Q hr
          rw [← hD] at hd9 hst
          have Hst : Hid (Rest i (r % Q) U (out ++ [48 + (D : Int)])) := hst.1
          have Hmod : Hid (((r % Q : Nat) : Int) = r - (D : Int) * (Q : Int)) := hmod
          clear hst hrest hj hD hmod
          go_wp2_with (first | (at_builtin; refine wpList_append_own _ rfl _ _ 22 (by rfl) w.heap.size 5 i0 (.int .u8 0) 1 1 Try.underlying22 hi hz0 hz1 hz2 rfl (by decide) u4 out.length _ rfl (hown.alloc _) ⟨wr.heap.size, 0, none⟩ 1 1 [.int .u8 (48 + (D : Int))] rfl rfl (cell_one_new _ _ _) (by intro u hu; simp at hu; subst hu; rfl) (by unfold maxLen; omega) (by omega) (by have := hbel.size; simp; omega) ?_; intro v3 w3 hown3 hgr3 _))
          go_roundw
          case rel =>
            refine ⟨i, r % Q, Q / 10, out ++ [48 + (D : Int)], by rw [Hmod.out], by go_num, ?_, by omega, ten_down HQ.out, Hst, by simpa using hown3, ?_⟩
            · have := Nat.mod_le r Q; omega
            · refine (hbel.alloc hbel.size _).grown hgr3 ?_ (fun k h => (hown.lt k h).1)
              have := hbel.size
              simp
              omega
          case measure => simp [intOf]; omega
        · obtain rfl : j = 0 := by
            rcases hj.out with h | h
            · exact h.1
            · have : 0 < 10 ^ (j - 1) := Nat.pow_pos (by decide)
              omega
          have He : Hid (digs 19 (U : Int) = out) := rest_end hrest.out
          go_wp2_with fail
          go_ret
          refine ⟨_, rfl, ?_, hbel⟩
          rw [He.out]
          exact hown

/-- zzTextWidth's answer. -/
def textWidth (v width : Int) : Int := if ((digs 19 v).length : Int) < width then width else ((digs 19 v).length : Int)

theorem zzTextWidth_any (v width : Int) (w : World) (h0 : 0 ≤ v) (h1 : v ≤ 9223372036854775807) :
    Calls Try.prog 14 #[.int .i64 v, .int .i64 width] w fun e w' => e = .returned (.int .i64 (textWidth v width)) ∧ Below w.heap.size w w' := by
  obtain ⟨U, rfl⟩ := Int.eq_ofNat_of_zero_le h0
  have hd := digs_length_le 19 (U : Int)
  have hp : 0 < (digs 19 (U : Int)).length := digs_pos 18 _
  go_enter Try.func14, Try.ntmps14
  go_wp2_with fail
  refine (zzDecimal_any U w (by omega)).mono ?_
  rintro e w1 ⟨v1, rfl, hown, hbel⟩
  obtain ⟨g, cap, rfl, -, -⟩ := hown.form hp
  clear hown
  have HT : Hid (textWidth (U : Int) width = if ((digs 19 (U : Int)).length : Int) < width then width else ((digs 19 (U : Int)).length : Int)) := rfl
  generalize (digs 19 (U : Int)).length = L at *
  by_cases hlt : (L : Int) < width
  · go_wp2_with fail
    go_ret
    exact ⟨by rw [HT.out, if_pos hlt]; rfl, hbel⟩
  · go_wp2_with fail
    go_ret
    exact ⟨by rw [HT.out, if_neg (by omega)]; rfl, hbel⟩

end Go.Proofs.Qxb6601794a
