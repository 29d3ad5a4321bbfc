/-
  The walk of 'FnAppendIntReadsBack'.
-/
import Derived.Test.Qxb6601794aAppendInt
import Derived.Test.Qxb6601794aReads
import Derived.Deep.AppendLies
namespace Go.Proofs.Qxb6601794a
open Go.RowKit

/-- A row that is owned, cell by cell. -/
theorem own_cell {w : World} {base g n cap : Nat} {T : List Int} (h : w.ownsRow base 5 1 (.slice (some ⟨g, 0, none⟩) n cap) n (T.map (Value.int .u8))) (j : Nat) (hj : j < n) : w.cell? ⟨g, j, none⟩ = some (.int .u8 (at' T j)) := by
  unfold at'
  have hl := h.1
  rw [h.cellAt j (by omega)]
  have hj2 : j < T.length := by simp at hl; omega
  simp [hj2]

set_option maxHeartbeats 800000 in
set_option maxRecDepth 10000 in
theorem readsBack (x width pad : Int) (w : World) (hx0 : -9223372036854775808 < x) (hx : x ≤ 9223372036854775807) (hw : width ≤ 65536) (hp : pad = 48 ∨ pad = 32) :
    Calls Try.prog 4 #[.int .i64 x, .int .i64 width, .int .u8 pad] w fun e w' => e = .returned (.bool true) ∧ Below w.heap.size w w' := by
  have hb := body_reads x width pad hx0 hx hp
  have hh := text_head x width pad hx0 hp
  have hpos := text_pos x width pad
  have hle := text_le x width pad hw
  have Hp : Hid (pad = 48 ∨ pad = 32) := hp
  have Hb : Hid (body x width pad ≠ [] ∧ (∀ c ∈ body x width pad, 48 ≤ c ∧ c ≤ 57) ∧ (body x width pad).foldl rd 0 = -(mag x)) := hb
  have Hh : Hid ((at' (text x width pad) 0 == 45) = decide (x < 0)) := hh
  clear hp hb hh
  go_enter Try.func4, Try.ntmps4
  go_upto_region 3 with fail
  go_cut [20] (fun t wr => t = .bool false ∧ w = wr)
  case first =>
    go_wp2_with fail
    all_goals (go_meet; exact ⟨by simp; try omega, rfl⟩)
  case rest =>
  obtain ⟨rfl, rfl⟩ := hcut
  go_upto_region 5 with fail
  go_cut [26] (fun t wr => t = .bool false ∧ w = wr)
  case first =>
    by_cases h : (pad != 48) = true
    · have h2 : (pad != 32) = false := by have := Hp.out; simp at h; simp; omega
      go_wp2_with fail
      go_meet; exact ⟨rfl, rfl⟩
    · have h2 : (pad != 48) = false := by simpa using h
      clear h
      go_wp2_with fail
      go_meet; exact ⟨rfl, rfl⟩
  case rest =>
  obtain ⟨rfl, rfl⟩ := hcut
  go_wp2_with fail
  refine (zzAppendInt_any w.heap.size _ 0 [] x width pad w (by omega) hx hw (by omega) (World.ownsRow_nil _ _ _ _) (Nat.le_refl _)).mono ?_
  rintro e w1 ⟨v1, rfl, hown, hgr⟩
  have hbel : Below w.heap.size w w1 := hgr.below (Nat.le_refl _) (fun g h => by simp [Value.ownBlock] at h)
  simp only [Nat.zero_add, List.nil_append] at hown
  obtain ⟨g, cap, rfl, -, -⟩ := hown.form hpos
  have hcell := own_cell hown
  clear hgr hown
  have Hbody : Hid (body x width pad = ((text x width pad).drop (sgn x).length).dropWhile (· == 32)) := rfl
  have hs := sgn_le x
  generalize text x width pad = T at *
  generalize body x width pad = R at *
  have hc0 := hcell 0 hpos
  go_upto_if 41 with fail
  go_cut [8, 9] (fun i ng wr => i = .int .i64 ((sgn x).length : Nat) ∧ ng = .bool (decide (x < 0)) ∧ w1 = wr)
  case first =>
    by_cases hneg : x < 0
    · have h1 : (at' T 0 == 45) = true := by rw [Hh.out]; simp [hneg]
      go_wp2_with fail
      go_meet
      case rel => exact ⟨by rw [show (sgn x).length = 1 from by simp [sgn, hneg]]; rfl, by rw [show decide (x < 0) = true from by simp [hneg]], rfl⟩
    · have h1 : (at' T 0 == 45) = false := by rw [Hh.out]; simp [hneg]
      go_wp2_with fail
      go_meet
      case rel => exact ⟨by rw [show (sgn x).length = 0 from by simp [sgn, hneg]]; rfl, by rw [show decide (x < 0) = false from by simp; omega], rfl⟩
  case rest =>
  obtain ⟨rfl, rfl, rfl⟩ := hcut
  generalize (sgn x).length = s0 at *
  go_wp2_with fail
  go_loop [8] (fun i => ∃ k : Nat, k ≤ T.length ∧ i = .int .i64 k ∧ Hid ((T.drop k).dropWhile (· == 32) = R)) (fun i => T.length - (intOf i).toNat)
  case atStart => exact ⟨s0, by omega, rfl, Hbody.out.symm⟩
  case round =>
    obtain ⟨k, hk, rfl, hR⟩ := hrel
    by_cases hlt : k < T.length
    case neg =>
      exfalso
      have := hR.out
      rw [List.drop_of_length_le (by omega)] at this
      exact Hb.out.1 this.symm
    have hck := hcell k hlt
    have Hdk : Hid (T.drop k = at' T k :: T.drop (k + 1)) := drop_cons_getD hlt
    by_cases h32 : (at' T k == 32) = true
    · go_wp2_with fail
      go_round
      case rel => exact ⟨k + 1, by omega, by go_num, by have := hR.out; rw [Hdk.out, List.dropWhile_cons, if_pos h32] at this; exact this⟩
      case measure => simp [intOf]; omega
    · have h32' : (at' T k == 32) = false := by simpa using h32
      have HR2 : Hid (T.drop k = R) := by have := hR.out; rw [Hdk.out, List.dropWhile_cons, if_neg h32, ← Hdk.out] at this; exact this
      clear h32 Hdk hR
      have hne : ((k : Int) == (T.length : Int)) = false := by simp; omega
      go_wp2_with fail
      go_loop [8, 10] (fun i a => ∃ (q : Nat) (z : Int), q ≤ T.length ∧ i = .int .i64 q ∧ a = .int .i64 z ∧ z ≤ 0 ∧ Hid ((T.drop q).foldl rd z = -(mag x) ∧ ∀ c ∈ T.drop q, 48 ≤ c ∧ c ≤ 57)) (fun i _ => T.length - (intOf i).toNat)
      case atStart => exact ⟨k, 0, by omega, rfl, rfl, by omega, by rw [HR2.out]; exact ⟨Hb.out.2.2, Hb.out.2.1⟩⟩
      case round =>
        obtain ⟨q, z, hq, rfl, rfl, hz, hrest⟩ := hrel
        by_cases hql : q < T.length
        · have hcq := hcell q hql
          have Hdq : Hid (T.drop q = at' T q :: T.drop (q + 1)) := drop_cons_getD hql
          have hcb : 48 ≤ at' T q ∧ at' T q ≤ 57 := hrest.out.2 _ (by rw [Hdq.out]; simp)
          have hnext : Hid ((T.drop (q + 1)).foldl rd (rd z (at' T q)) = -(mag x) ∧ ∀ c ∈ T.drop (q + 1), 48 ≤ c ∧ c ≤ 57) := by
            have := hrest.out
            rw [Hdq.out] at this
            exact ⟨this.1, fun c hc => this.2 c (by simp [hc])⟩
          have hrd0 : z * 10 - (at' T q - 48) ≤ 0 := by omega
          have hrd1 : -9223372036854775807 ≤ z * 10 - (at' T q - 48) := by
            have h1 := rd_falls (T.drop (q + 1)) (rd z (at' T q)) (by simp only [rd]; omega) hnext.out.2
            rw [hnext.out.1] at h1
            have h2 := mag_bd x (by omega) hx
            simp only [rd] at h1
            have h3 : mag x ≤ 9223372036854775807 := h2.2
            omega
          clear hrest
          go_wp2_with fail
          go_round
          case rel => exact ⟨q + 1, z * 10 - (at' T q - 48), by omega, by go_num, rfl, hrd0, hnext⟩
          case measure => simp [intOf]; omega
        · have Hz : Hid (z = -(mag x)) := by
            have := hrest.out.1
            rw [List.drop_of_length_le (by omega)] at this
            exact this
          have hzl : -9223372036854775807 ≤ z := by
            have h2 := (mag_bd x (by omega) hx).2
            have h3 := Hz.out
            omega
          by_cases hneg : x < 0
          · have hzx : (z == x) = true := by
              have h3 := Hz.out
              have hmin : ¬ x = -9223372036854775808 := by omega
              have h4 : mag x = -x := by simp [mag, hneg, hmin]
              rw [h4] at h3
              simp
              omega
            go_wp2_with fail
            go_ret
            exact ⟨rfl, hbel⟩
          · have hzx : (-z == x) = true := by
              have h3 := Hz.out
              have h4 : mag x = x := by simp [mag, hneg]
              rw [h4] at h3
              simp
              omega
            go_wp2_with fail
            go_ret
            exact ⟨rfl, hbel⟩

end Go.Proofs.Qxb6601794a
