/-
  Worlds behind appends: what a call that appends to a slice of its own (or to one that its caller owns) leaves as it was.
-/
import Derived.Maps.AppendAt
import Derived.Below
import Derived.WalkKit
namespace Go.Proofs.Qxb6601794a
open Go.RowKit

/-- w' is w behind appends that have made v' (n' elements of one cell) out of v (n elements): every old block but v's own is as it was, and of v's own block the first n cells. -/
structure Grew (w w' : World) (v v' : Value) (n n' : Nat) : Prop where
  os : w'.os = w.os
  tape : w'.tape = w.tape
  output : w'.output = w.output
  size : w.heap.size ≤ w'.heap.size
  len : n ≤ n'
  lies : v'.ownBlock = v.ownBlock ∨ ∃ g, v'.ownBlock = some g ∧ w.heap.size ≤ g
  block : ∀ k, k < w.heap.size → some k ≠ v.ownBlock → w'.heap[k]? = w.heap[k]?
  cell : ∀ b o, b < w.heap.size → (some b = v.ownBlock → o < n) → w'.cell? ⟨b, o, none⟩ = w.cell? ⟨b, o, none⟩

theorem Grew.refl (w : World) (v : Value) (n : Nat) : Grew w w v v n n :=
  ⟨rfl, rfl, rfl, Nat.le_refl _, Nat.le_refl _, .inl rfl, fun _ _ _ => rfl, fun _ _ _ _ => rfl⟩

theorem Grew.trans {a b c : World} {u v x : Value} {k m n : Nat} (h : Grew a b u v k m) (g : Grew b c v x m n) : Grew a c u x k n := by
  refine ⟨g.os.trans h.os, g.tape.trans h.tape, g.output.trans h.output, Nat.le_trans h.size g.size, Nat.le_trans h.len g.len, ?_, ?_, ?_⟩
  · rcases g.lies with e | ⟨q, e, hq⟩
    · rw [e]; exact h.lies
    · exact .inr ⟨q, e, Nat.le_trans h.size hq⟩
  · intro i hi hne
    rw [g.block i (Nat.lt_of_lt_of_le hi h.size) ?_, h.block i hi hne]
    rcases h.lies with e | ⟨q, e, hq⟩
    · rw [e]; exact hne
    · rw [e]; intro e2; have := Option.some.inj e2; omega
  · intro i o hi hne
    rw [g.cell i o (Nat.lt_of_lt_of_le hi h.size) ?_, h.cell i o hi hne]
    intro e1
    rcases h.lies with e | ⟨q, e, hq⟩
    · rw [e] at e1; have := hne e1; have := h.len; omega
    · rw [e] at e1; have := Option.some.inj e1; omega

theorem Grew.alloc {a b : World} {u v : Value} {k m : Nat} (h : Grew a b u v k m) (o : Obj) : Grew a (b.alloc o) u v k m := by
  refine ⟨h.os, h.tape, h.output, by have := h.size; simp; omega, h.len, h.lies, ?_, ?_⟩
  · intro i hi hne
    rw [Below.heap_alloc _ _ _ (Nat.lt_of_lt_of_le hi h.size), h.block i hi hne]
  · intro i q hi hne
    rw [← h.cell i q hi hne]
    exact World.cell?_of_block (Below.heap_alloc _ _ _ (Nat.lt_of_lt_of_le hi h.size))

theorem Grew.below {a b : World} {u v : Value} {k m : Nat} (h : Grew a b u v k m) {B : Nat} (hB : B ≤ a.heap.size) (hu : ∀ g, u.ownBlock = some g → B ≤ g) : Below B a b :=
  ⟨h.os, h.tape, h.output, h.size, fun i hi => h.block i (by omega) (fun e => by have := hu i e.symm; omega)⟩

section
variable {P : Program} (w : World)

/-- What an append onto a row that is owned leaves of that row: its old elements. -/
theorem append_cells (base : Nat) (t ty e : TypeId) (i : TypeInfo) (z : Value) (bytes : Nat) (ht : P.underlying t = some (.slice e)) (hi : P.info? e = some i) (hz : i.zero = some z)
    (hsize : i.size = 1) (hby : i.bytes = bytes)
    (v : Value) (n : Nat) (xs : List Value) (hown : w.ownsRow base e 1 v n xs)
    (a : Addr) (m c : Nat) (news : List Value) (hl : news.length = m * 1) (hnews : ∀ j u, news[j]? = some u → w.cell? (a.add j) = some u) (h1 : ∀ u ∈ news, u.oneCell' = true)
    (h63 : n + m ≤ maxLen) (hbytes : (n + m) * bytes ≤ 140737488355328)
    (v' : Value) (w' : World) (hr : (Builtin.append_ #[t, t] ty #[v, .slice (some a) m c]).run P w = .ok v' w') (hg : w.grownBy w' v.ownBlock) :
    ∀ b o, b < w.heap.size → (some b = v.ownBlock → o < n) → w'.cell? ⟨b, o, none⟩ = w.cell? ⟨b, o, none⟩ := by
  subst hby
  intro b o hb ho
  by_cases hne : some b = v.ownBlock
  case neg => exact World.cell?_of_block (hg.block b hb hne)
  have ho := ho hne
  have hsmall : n + m ≤ 9223372036854775807 := by simp only [maxLen] at h63; omega
  rcases hown.2 with ⟨rfl, rfl⟩ | ⟨g, cap, cur, rfl, hbg, hgg, hnc, hcm, hcs, htake⟩
  · omega
  · obtain rfl : b = g := by simpa [Value.ownBlock] using hne
    have hl' : news.length = m * i.size := by rw [hsize]; exact hl
    by_cases hroom : n + m ≤ cap
    · have hr2 := run_append_room (P := P) w t ty e i ht hi b n cap cur hgg a m c news hl' hnews h1 hroom (by rw [hsize]; omega)
      rw [hr] at hr2
      obtain ⟨_, rfl⟩ := Result.ok.inj hr2
      rw [cell_of_row w b o cur e (0, 0) hgg, cell_of_row _ b o _ e (0, 0) (setRow_heap w b cur _ e _ hgg)]
      rw [hsize]
      have : (cur.toList.take (n * 1)).length = n := by simp; omega
      simp only [List.getElem?_toArray, List.append_assoc]
      rw [List.getElem?_append_left (by omega), List.getElem?_take, if_pos (by omega)]
      simp
    · have holds := hown.cells (g := b) rfl
      have hr2 := run_append_grow (P := P) w t ty e i z ht hi hz ⟨b, 0, none⟩ n cap xs (by rw [hsize]; exact hown.1) holds a m c news hl' hnews (by omega) (by omega) (growslice_fits (by omega) hbytes)
      rw [hr] at hr2
      obtain ⟨_, rfl⟩ := Result.ok.inj hr2
      exact World.cell?_of_block (Below.heap_alloc w.drew _ b hb)

/-- AT THE OPERATION, FOR THE WALK. -/
theorem wpList_append_keep {ops : Array Oper} {rest : List Oper} {o : Oper} {a : Act} {Q : Exit → Act → World → Prop} (hgd : o.guard = none) (s x : Operand) (t : TypeId)
    (ho : o.op = .call { callee := .builtin .append, args := #[s, x], argTypes := #[t, t] })
    (base : Nat) (e : TypeId) (i : TypeInfo) (z : Value) (bytes : Nat) (ht : P.underlying t = some (.slice e)) (hi : P.info? e = some i) (hz : i.zero = some z)
    (hsize : i.size = 1) (hby : i.bytes = bytes) (hzs : z.cells.size = 1)
    (v : Value) (n : Nat) (xs : List Value) (hs : a.eval s = v) (hown : w.ownsRow base e 1 v n xs)
    (ad : Addr) (m c : Nat) (news : List Value) (hx : a.eval x = .slice (some ad) m c) (hl : news.length = m * 1) (hnews : ∀ j u, news[j]? = some u → w.cell? (ad.add j) = some u) (h1 : ∀ u ∈ news, u.oneCell' = true)
    (h63 : n + m ≤ maxLen) (hbytes : (n + m) * bytes ≤ 140737488355328) (hbase : base ≤ w.heap.size)
    (h : ∀ v' w', w'.ownsRow base e 1 v' (n + m) (xs ++ news) → Grew w w' v v' n (n + m) → wpList P ops Q rest (a.put o.dst v') w') :
    wpList P ops Q (o :: rest) a w := by
  refine wpList_plain hgd fun K hK => ?_
  obtain ⟨v', w', hr, h2, h3, h4, h5⟩ := run_append_own_at (P := P) w base t o.type e i z 1 bytes ht hi hz hsize hby hzs (by decide) v n xs hown ad m c news hl hnews h1 h63 hbytes hbase
  have h6 := append_cells (P := P) w base t o.type e i z bytes ht hi hz hsize hby v n xs hown ad m c news hl hnews h1 h63 hbytes v' w' hr h3
  unfold Oper.wp execOp
  simp only [ho, resolve, invoke, builtin, Sem.run_bind, Sem.run_pure, Result.andThen_ok, List.map_toArray, List.map_cons, List.map_nil, hs, hx, hr]
  refine hK _ _ (h v' w' h2 ⟨h3.os, h3.tape, h3.output, h3.size, by omega, ?_, h3.block, h6⟩)
  rcases h5 with h5 | h5
  · exact .inl h5
  · exact .inr ⟨_, h5, Nat.le_refl _⟩
end

/-- A block of another element type is not the row's own. -/
theorem other_block {w : World} {base n D : Nat} {e e' : TypeId} {v : Value} {xs : List Value} {arr : Array Value} {fr : Nat × Nat} (h : w.ownsRow base e 1 v n xs) (hD : w.heap[D]? = some (.cells arr e' fr)) (hne : e ≠ e') : some D ≠ v.ownBlock := by
  rcases h.2 with ⟨rfl, _⟩ | ⟨g, cap, cur, rfl, _, hg, _⟩
  · simp [Value.ownBlock]
  · simp only [Value.ownBlock, ne_eq, Option.some.injEq]
    rintro rfl
    rw [hg] at hD
    simp at hD
    exact hne hD.2.1

end Go.Proofs.Qxb6601794a
