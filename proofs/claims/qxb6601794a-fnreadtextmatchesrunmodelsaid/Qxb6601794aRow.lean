/-
  From the row's reading of a slice of bytes to 'Holds'.
-/
import Derived.Test.Qxb6601794aClone
import Derived.OpenShut
namespace Go.Proofs.Qxb6601794a
open Go.RowKit

theorem holds_of_row {w : World} {a : Option Addr} {len cap : Nat} {zs : List Int}
    (h : (a = none ∧ len = 0 ∧ cap = 0 ∧ zs = []) ∨
      ∃ x, a = some x ∧ len ≤ cap ∧ cap ≤ maxLen ∧ zs.length = cap ∧ (∀ i, i < zs.length → w.cell? (x.add i) = some (.int .u8 (zs.getD i 0))) ∧ ∀ n ∈ zs, (Lit.int .u8 n).wf = true) :
    Holds w a len (zs.take len) ∧ len ≤ maxLen := by
  rcases h with ⟨rfl, rfl, rfl, rfl⟩ | ⟨x, rfl, hl, hm, hz, hc, hw⟩
  · exact ⟨⟨rfl, by simp, fun _ => rfl, fun j hj => absurd hj (Nat.not_lt_zero _)⟩, Nat.zero_le _⟩
  · refine ⟨⟨by simp; omega, ?_, (fun h => by cases h), ?_⟩, by omega⟩
    · intro c hc
      exact bounds_u8 (hw c (List.mem_of_mem_take hc))
    · intro j hj
      obtain ⟨b, o, spot⟩ := x
      have h1 := hc j (by omega)
      have hspot : spot = none := by simpa [Addr.add] using World.cell?_spot (hc 0 (by omega))
      subst hspot
      have e : (⟨b, o, none⟩ : Addr).add j = ⟨b, o + j, none⟩ := by rw [Addr.add_lit]
      rw [e] at h1
      refine ⟨b, o, rfl, World.block_lt_of_cell? w _ h1, ?_⟩
      rw [h1]
      unfold at'
      simp [List.getD, hj]

end Go.Proofs.Qxb6601794a
