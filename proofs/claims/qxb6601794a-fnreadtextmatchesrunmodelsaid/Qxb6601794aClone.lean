/-
  zzCloneBytes, and what a law is told of a slice of bytes that came in.
-/
import Derived.Test.Qxb6601794aReadsWalk
import Derived.Lib.SliceRun
namespace Go.Proofs.Qxb6601794a
open Go.RowKit

theorem hide {p : Prop} (h : p) : Hid p := h
theorem unhide {p : Prop} (h : Hid p) : p := h

/-- The slice value '.slice a len _' of the world w holds the bytes xs. -/
def Holds (w : World) (a : Option Addr) (len : Nat) (xs : List Int) : Prop :=
  xs.length = len ∧ (∀ c ∈ xs, 0 ≤ c ∧ c ≤ 255) ∧ (a = none → len = 0) ∧ ∀ j, j < len → ∃ b o, a = some ⟨b, o, none⟩ ∧ b < w.heap.size ∧ w.cell? ⟨b, o + j, none⟩ = some (.int .u8 (at' xs j))

/-- The same with one address for all. -/
theorem Holds.cells {w : World} {a : Option Addr} {len : Nat} {xs : List Int} (h : Holds w a len xs) (hl : 0 < len) :
    ∃ b o, a = some ⟨b, o, none⟩ ∧ b < w.heap.size ∧ ∀ j, j < len → w.cell? ⟨b, o + j, none⟩ = some (.int .u8 (at' xs j)) := by
  obtain ⟨b, o, rfl, hb, _⟩ := h.2.2.2 0 hl
  refine ⟨b, o, rfl, hb, fun j hj => ?_⟩
  obtain ⟨b', o', e, _, hc⟩ := h.2.2.2 j hj
  simp at e
  obtain ⟨rfl, rfl⟩ := e
  exact hc

/-- What is owned is held. -/
theorem holds_of_owns {w : World} {base n : Nat} {v : Value} {xs : List Int} (h : w.ownsRow base 5 1 v n (xs.map (Value.int .u8))) (hb : ∀ c ∈ xs, 0 ≤ c ∧ c ≤ 255) :
    ∃ a cap, v = .slice a n cap ∧ Holds w a n xs := by
  have hl : xs.length = n := by simpa using h.1
  rcases h.2 with ⟨rfl, rfl⟩ | ⟨g, cap, cur, rfl, _, hg, _⟩
  · exact ⟨none, 0, rfl, hl, hb, fun _ => rfl, fun j hj => absurd hj (Nat.not_lt_zero _)⟩
  · exact ⟨_, cap, rfl, hl, hb, (fun h => by cases h), fun j hj => ⟨g, 0, rfl, lt_of_block hg, by simpa using own_cell h j hj⟩⟩

theorem Holds.later {w w' : World} {a : Option Addr} {len : Nat} {xs : List Int} (h : Holds w a len xs) {B : Nat} (hb : Below B w w') (hB : w.heap.size ≤ B) : Holds w' a len xs :=
  ⟨h.1, h.2.1, h.2.2.1, fun j hj => by
    obtain ⟨b, o, e, hlt, hc⟩ := h.2.2.2 j hj
    exact ⟨b, o, e, Nat.lt_of_lt_of_le hlt hb.size, (hb.cell (p := ⟨b, o + j, none⟩) (by simp; omega)).trans hc⟩⟩

/-- What zzCloneBytes has copied so far. -/
def cur (xs : List Int) (k : Nat) : List Int := xs.take k ++ List.replicate (xs.length - k) 0

theorem cur_length (xs : List Int) (k : Nat) (hk : k ≤ xs.length) : (cur xs k).length = xs.length := by simp [cur]; omega

theorem cur_step (xs : List Int) (k : Nat) (hk : k < xs.length) : ((cur xs k).map (Value.int .u8)).set k (.int .u8 (at' xs k)) = (cur xs (k + 1)).map (Value.int .u8) := by
  rw [← List.map_set]
  congr 1
  unfold cur at'
  have h1 : (xs.take k).length = k := by simp; omega
  rw [List.set_append, if_neg (by omega), h1, Nat.sub_self, List.take_succ_eq_append_getElem hk, List.append_assoc]
  obtain ⟨m, hm⟩ : ∃ m, xs.length - k = m + 1 := ⟨xs.length - k - 1, by omega⟩
  have hm2 : xs.length - (k + 1) = m := by omega
  rw [hm, hm2, List.replicate_succ, List.set_cons_zero]
  simp [hk]

theorem cur_zero (xs : List Int) : (madeCells (Value.int .u8 0).cells (xs.length * 1)).toList = (cur xs 0).map (Value.int .u8) := by
  have : (Value.int .u8 0).cells = #[Value.int .u8 0] := rfl
  rw [this, toList_madeCells_one]
  simp [cur]

theorem cur_end (xs : List Int) : cur xs xs.length = xs := by simp [cur]

set_option maxHeartbeats 800000 in
theorem clone_any (a : Option Addr) (len cap : Nat) (xs : List Int) (w : World) (hlen : len ≤ 1048576) (h : Holds w a len xs) :
    Calls Try.prog 11 #[.slice a len cap] w fun e w' => ∃ v, e = .returned v ∧ w'.ownsRow w.heap.size 5 1 v len (xs.map (Value.int .u8)) ∧ Below w.heap.size w w' := by
  obtain ⟨i0, hi, hz0, hz1, hz2⟩ := info_parts Try.info5
  have q22 : ∀ (w : World) (a : Option Addr) (n c n' c' : Nat), (binOp .eql 22 (.slice a n c) (.slice none n' c')).run Try.prog w = .ok (.bool a.isNone) w := fun w a n c n' c' => Lib.run_eql_slice_nil w _ _ a n c n' c' Try.underlying22
  have hxl := h.1
  cases a with
  | none =>
    obtain rfl := h.2.2.1 rfl
    obtain rfl := List.eq_nil_of_length_eq_zero hxl
    go_enter Try.func11, Try.ntmps11
    go_wp2_with fail
    go_ret
    exact ⟨_, rfl, World.ownsRow_nil _ _ _ _, Below.refl _ _⟩
  | some x =>
    obtain ⟨b, o, hx, hb, hc⟩ : ∃ b o, (0 < len → x = ⟨b, o, none⟩) ∧ (0 < len → b < w.heap.size) ∧ ∀ j, j < len → w.cell? ⟨b, o + j, none⟩ = some (.int .u8 (at' xs j)) := by
      by_cases h0 : 0 < len
      · obtain ⟨b, o, e, hb, hc⟩ := h.cells h0
        simp at e
        exact ⟨b, o, fun _ => e, fun _ => hb, hc⟩
      · exact ⟨0, 0, fun h => absurd h h0, fun h => absurd h h0, fun j hj => by omega⟩
    clear h
    go_enter Try.func11, Try.ntmps11
    go_wp2_with (first | (at_make; refine wpList_make_full _ rfl _ _ 22 (by rfl) w.heap.size 5 i0 (.int .u8 0) 1 Try.underlying22 hi hz0 hz1 .i64 .i64 len len len rfl rfl (by omega) (by omega) (by rw [hz2]; omega) (by unfold maxLen; omega) (Nat.le_refl _) ?_; intro w1 hown1 hgr1))
    have hown1' : w1.ownsRow w.heap.size 5 1 (.slice (some ⟨w.heap.size, 0, none⟩) len len) len ((cur xs 0).map (Value.int .u8)) := by rw [← hxl, ← cur_zero xs, hxl]; exact hown1
    have hbel1 : Below w.heap.size w w1 := (Below.refl _ _).grown hgr1 (Nat.le_refl _) (by intro k h; cases h)
    have hxl' : Hid (xs.length = len) := hxl
    clear hown1 hgr1 hxl
    go_loopw [4] (fun i wr => ∃ k : Nat, k ≤ len ∧ i = .int .i64 k ∧ wr.ownsRow w.heap.size 5 1 (.slice (some ⟨w.heap.size, 0, none⟩) len len) len ((cur xs k).map (Value.int .u8)) ∧ Below w.heap.size w wr) (fun i _ => len - (intOf i).toNat)
    case atStart => exact ⟨0, by omega, rfl, hown1', hbel1⟩
    case round =>
      obtain ⟨k, hk, rfl, hown, hbel⟩ := hrel
      by_cases hlt : k < len
      · obtain rfl := hx (by omega)
        have hb' := hb (by omega)
        have hcs : wr.cell? ⟨b, o + k, none⟩ = some (.int .u8 (at' xs k)) := (hbel.cell (by exact hb')).trans (hc k hlt)
        obtain ⟨u, hcd⟩ : ∃ u, wr.cell? ⟨w.heap.size, k, none⟩ = some u := ⟨_, own_cell hown k hlt⟩
        have hfd : wr.frozen? ⟨w.heap.size, k, none⟩ = false := hown.frozenAt k
        have R := hown.stored k (.int .u8 (at' xs k))
        rw [cur_step xs k (by rw [hxl'.out]; exact hlt)] at R
        have hbel2 := hbel.setCell (p := ⟨w.heap.size, k, none⟩) (Nat.le_refl _) (.int .u8 (at' xs k))
        generalize at' xs k = c at *
        have HR := hide R.1
        have HB := hide hbel2
        clear R hbel2
        go_wp2_with fail
        go_roundw
        case rel => exact ⟨k + 1, by omega, by go_num, unhide HR, unhide HB⟩
        case measure => simp [intOf]; omega
      · have hkl : k = len := by omega
        subst hkl
        have he : cur xs k = xs := by rw [← hxl'.out]; exact cur_end xs
        rw [he] at hown
        clear he
        go_wp2_with fail
        go_ret
        exact ⟨_, rfl, hown, hbel⟩

end Go.Proofs.Qxb6601794a
