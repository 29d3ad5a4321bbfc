/-
  What a law is told of a slice of bytes that came in; zzCloneBytes.
-/
import Derived.Test.Qxb6602184aProg
import Derived.WalkKit
import Derived.WalkSpells
import Derived.WalkLawsBesides
import Derived.Deep.DeepCutAuto
import Derived.Deep.Light
import Derived.Deep.QuietTactic
import Derived.BigQuiet
import Derived.Lib.SliceRun
import Derived.Laws.CopyOwn
import Derived.OpenShut
import Derived.Test.Qxb6602184aJson
namespace Go.Proofs.Qxb6602184a
open Go.RowKit

theorem hide {p : Prop} (h : p) : Hid p := h
theorem unhide {p : Prop} (h : Hid p) : p := h

theorem Try.info5 : (Try.prog.info? 5).map (fun i => (i.zero, i.size, i.bytes)) = some (some (.int .u8 0), 1, 1) := by kernel_rfl

/-- The slice value '.slice a len _' of the world w holds the bytes xs. -/
def Holds (w : World) (a : Option Addr) (len : Nat) (xs : List Int) : Prop :=
  xs.length = len ∧ (∀ c ∈ xs, 0 ≤ c ∧ c ≤ 255) ∧ (a = none → len = 0) ∧ ∀ j, j < len → ∃ b o, a = some ⟨b, o, none⟩ ∧ b < w.heap.size ∧ w.cell? ⟨b, o + j, none⟩ = some (.int .u8 (at' xs j))

/-- The same with one address for all. -/
theorem Holds.cells {w : World} {a : Option Addr} {len : Nat} {xs : List Int} (h : Holds w a len xs) (hl : 0 < len) :
    ∃ b o, a = some ⟨b, o, none⟩ ∧ b < w.heap.size ∧ ∀ j, j < len → w.cell? ⟨b, o + j, none⟩ = some (.int .u8 (at' xs j)) := by
  obtain ⟨b, o, rfl, hb, _⟩ := h.2.2.2 0 hl
  refine ⟨b, o, rfl, hb, fun j hj => ?_⟩
  obtain ⟨b', o', e, _, hc⟩ := h.2.2.2 j hj
  simp at e
  obtain ⟨rfl, rfl⟩ := e
  exact hc

theorem Holds.later {w w' : World} {a : Option Addr} {len : Nat} {xs : List Int} (h : Holds w a len xs) {B : Nat} (hb : Below B w w') (hB : w.heap.size ≤ B) : Holds w' a len xs :=
  ⟨h.1, h.2.1, h.2.2.1, fun j hj => by
    obtain ⟨b, o, e, hlt, hc⟩ := h.2.2.2 j hj
    exact ⟨b, o, e, Nat.lt_of_lt_of_le hlt hb.size, (hb.cell (p := ⟨b, o + j, none⟩) (by simp; omega)).trans hc⟩⟩

theorem holds_of_row {w : World} {a : Option Addr} {len cap : Nat} {zs : List Int}
    (h : (a = none ∧ len = 0 ∧ cap = 0 ∧ zs = []) ∨
      ∃ x, a = some x ∧ len ≤ cap ∧ cap ≤ maxLen ∧ zs.length = cap ∧ (∀ i, i < zs.length → w.cell? (x.add i) = some (.int .u8 (zs.getD i 0))) ∧ ∀ n ∈ zs, (Lit.int .u8 n).wf = true) :
    Holds w a len (zs.take len) ∧ len ≤ maxLen := by
  rcases h with ⟨rfl, rfl, rfl, rfl⟩ | ⟨x, rfl, hl, hm, hz, hc, hw⟩
  · exact ⟨⟨rfl, by simp, fun _ => rfl, fun j hj => absurd hj (Nat.not_lt_zero _)⟩, Nat.zero_le _⟩
  · refine ⟨⟨by simp; omega, ?_, (fun h => by cases h), ?_⟩, by omega⟩
    · intro c hc
      exact bounds_u8 (hw c (List.mem_of_mem_take hc))
    · intro j hj
      obtain ⟨b, o, spot⟩ := x
      have h1 := hc j (by omega)
      have hspot : spot = none := by simpa [Addr.add] using World.cell?_spot (hc 0 (by omega))
      subst hspot
      have e : (⟨b, o, none⟩ : Addr).add j = ⟨b, o + j, none⟩ := by rw [Addr.add_lit]
      rw [e] at h1
      refine ⟨b, o, rfl, World.block_lt_of_cell? w _ h1, ?_⟩
      rw [h1]
      unfold at'
      simp [List.getD, hj]

/-- A full row that is owned, as a block. -/
theorem own_block {w : World} {base g n : Nat} {xs : List Value} (h : w.ownsRow base 5 1 (.slice (some ⟨g, 0, none⟩) n n) n xs) : w.heap[g]? = some (.cells xs.toArray 5 (0, 0)) := by
  rcases h.2 with ⟨h1, _⟩ | ⟨g', cap, cur, h1, _, hg, _, _, hs, ht⟩
  · simp at h1
  · simp at h1
    obtain ⟨rfl, rfl⟩ := h1
    rw [hg]
    rw [List.take_of_length_le (by simp; omega)] at ht
    rw [← ht]

theorem splice_all {α : Type} (L cs : List α) (h : cs.length = L.length) : splice L 0 cs = cs := by
  simp [splice, h]

theorem holds_of_block {w : World} {g n : Nat} {xs : List Int} (h : w.heap[g]? = some (.cells (xs.map (Value.int .u8)).toArray 5 (0, 0))) (hn : xs.length = n) (hb : ∀ c ∈ xs, 0 ≤ c ∧ c ≤ 255) : Holds w (some ⟨g, 0, none⟩) n xs := by
  refine ⟨hn, hb, (fun h => by cases h), fun j hj => ⟨g, 0, rfl, lt_of_block h, ?_⟩⟩
  rw [Nat.zero_add, cell_of_row w g j _ 5 (0, 0) h]
  have : j < xs.length := by omega
  simp [at', this]

set_option maxHeartbeats 800000 in
theorem clone_any (a : Option Addr) (len cap : Nat) (xs : List Int) (w : World) (hlen : len ≤ 1048576) (h : Holds w a len xs) :
    Calls Try.prog 10 #[.slice a len cap] w fun e w' => ∃ a' cap', e = .returned (.slice a' len cap') ∧ len ≤ cap' ∧ Holds w' a' len xs ∧ Below w.heap.size w w' := by
  obtain ⟨i0, hi, hz0, hz1, hz2⟩ := info_parts Try.info5
  have hsz : (Try.prog.info? 5).map (·.size) = some 1 := by rw [hi]; simp [hz1]
  have q22 : ∀ (w : World) (a : Option Addr) (n c n' c' : Nat), (binOp .eql 22 (.slice a n c) (.slice none n' c')).run Try.prog w = .ok (.bool a.isNone) w := fun w a n c n' c' => Lib.run_eql_slice_nil w _ _ a n c n' c' Try.underlying22
  have hxl := h.1
  cases a with
  | none =>
    obtain rfl := h.2.2.1 rfl
    obtain rfl := List.eq_nil_of_length_eq_zero hxl
    go_enter Try.func10, Try.ntmps10
    go_wp2_with fail
    go_ret
    exact ⟨none, 0, rfl, Nat.le_refl _, ⟨rfl, by simp, fun _ => rfl, fun j hj => absurd hj (Nat.not_lt_zero _)⟩, Below.refl _ _⟩
  | some x =>
    have hh := hide h
    clear h
    go_enter Try.func10, Try.ntmps10
    have hcl : (xs.map (Value.int .u8)).length = len := by simp [hxl]
    have hpos : ∀ w1, Below w.heap.size w w1 → 0 < (xs.map (Value.int .u8)).length → (some ⟨w.heap.size, 0, none⟩ : Option Addr) = some ⟨w.heap.size, 0, none⟩ ∧ ∃ ad, some x = some ad ∧ ∀ j v, (xs.map (Value.int .u8))[j]? = some v → w1.cell? (ad.add j) = some v := by
      intro w1 hb hp
      obtain ⟨b, o, e, hlt, hc⟩ := (unhide hh).cells (by rw [hcl] at hp; exact hp)
      refine ⟨rfl, x, rfl, fun j v hv => ?_⟩
      have hj : j < xs.length := by
        have := (List.getElem?_eq_some_iff.1 hv).1
        simpa using this
      simp at e
      rw [e, Addr.add_lit, hb.cell (p := ⟨b, o + j, none⟩) hlt, hc j (by omega), ← hv]
      simp [at', hj]
    have HP := hide hpos
    have HL := hide hcl
    clear hpos hcl
    go_wp2_with (first | (at_make; refine wpList_make_full _ rfl _ _ 22 (by rfl) w.heap.size 5 i0 (.int .u8 0) 1 Try.underlying22 hi hz0 hz1 .i64 .i64 len len len rfl rfl (by omega) (by omega) (by rw [hz2]; omega) (by unfold maxLen; omega) (Nat.le_refl _) ?_; intro w1 hown1 hgr1; have hblk := own_block hown1; have hbl1 : Below w.heap.size w w1 := (Below.refl _ _).grown hgr1 (Nat.le_refl _) (by intro k h; cases h); clear hgr1; have HO := hide hown1; clear hown1; have HK := hide hblk; clear hblk) | (refine wpList_copy_splice rfl (.tmp 9) (.tmp 10) 22 22 (by rfl) 5 Try.underlying22 hsz _ _ _ _ _ _ (by rfl) (by rfl) w.heap.size 0 _ 5 (unhide HK) (xs.map (Value.int .u8)) ?c1 (unhide HP w1 hbl1) ?c2 (ints_oneCell _ _) w.heap.size w hbl1 (Nat.le_refl _) ?_))
    case c2 => rw [size_madeCells]; exact Nat.le_refl _
    intro w2 HG hbl2
    have hblk2 : w2.heap[w.heap.size]? = some (.cells (xs.map (Value.int .u8)).toArray 5 (0, 0)) := by
      have := HG.out
      rw [splice_all _ _ (by rw [unhide HL, Array.length_toList, size_madeCells])] at this
      exact this
    have HF := hide (holds_of_block hblk2 hxl (unhide hh).2.1)
    clear hblk2 HG
    go_wp2_with fail
    go_ret
    exact ⟨_, len, rfl, Nat.le_refl _, unhide HF, hbl2⟩

end Go.Proofs.Qxb6602184a
