/-
  The walk of strftime.appendInt: it appends 'text x width pad' (Qxb6601794aPlain) to a slice that its caller owns (or to nil).
-/
import Derived.Test.Qxb6601794aProg
import Derived.Test.Qxb6601794aPlain
import Derived.Test.Qxb6601794aKeep
import Derived.WalkSpells
import Derived.WalkLawsBesides
import Derived.Deep.DeepCutAuto
import Derived.Deep.Light
namespace Go.Proofs.Qxb6601794a
open Go.RowKit

theorem Try.info5 : (Try.prog.info? 5).map (fun i => (i.zero, i.size, i.bytes)) = some (some (.int .u8 0), 1, 1) := by kernel_rfl

def Dig (arr : Array Value) (k : Nat) (acc : List Int) : Prop := arr.size = 20 ∧ acc.length = k ∧ arr.toList.drop (20 - k) = acc.map (Value.int .u8)

theorem dig_step {arr : Array Value} {k : Nat} {acc : List Int} {c : Int} (hk : k ≤ 18) (h : Dig arr k acc) : Dig (arr.setIfInBounds (20 - k - 1) (.int .u8 c)) (k + 1) (c :: acc) := by
  obtain ⟨h1, h2, h3⟩ := h
  refine ⟨by simpa using h1, by simp [h2], ?_⟩
  have e : 20 - (k + 1) = 20 - k - 1 := by omega
  rw [e, Array.toList_setIfInBounds, List.drop_set, if_neg (by omega), Nat.sub_self]
  rw [List.drop_eq_getElem_cons (by simp [h1]; omega)]
  have e2 : 20 - k - 1 + 1 = 20 - k := by omega
  simp only [List.set_cons_zero, List.map_cons, e2, h3]

theorem byte_eq (q : Int) : (48 + q.tmod 10) % 256 = 48 + q.tmod 10 := by
  have := tmod_bd q
  omega

theorem wrap_min : wrap64 9223372036854775808 = -9223372036854775808 := by simp [wrap64]

/-- What the sign's append leaves: the relation behind the first test. -/
theorem signed {w w1 : World} {base n : Nat} {v v1 : Value} {xs : List Int} {x : Int} (hneg : x < 0) (hbase : base ≤ w.heap.size)
    (hown1 : w1.ownsRow base 5 1 v1 (n + 1) (xs.map (Value.int .u8) ++ [Value.int .u8 45])) (hg : Grew (w.alloc (.cells #[Value.int .u8 45] 5)) w1 v v1 n (n + 1)) :
    w1.ownsRow base 5 1 v1 (n + (sgn x).length) ((xs ++ sgn x).map (Value.int .u8)) ∧ base ≤ w1.heap.size ∧ Grew w w1 v v1 n (n + (sgn x).length) := by
  have e : sgn x = [45] := by simp [sgn, hneg]
  rw [e]
  refine ⟨by simpa using hown1, ?_, ((Grew.refl w v n).alloc _).trans hg⟩
  have := hg.size
  simp at this
  omega

/-- One round of the padding. -/
theorem padded {w wr w1 : World} {base n m j : Nat} {v d d1 : Value} {ys : List Int} {pad : Int} {D : Nat} {arr : Array Value} (hbase : base ≤ wr.heap.size) (hD : wr.heap[D]? = some (.cells arr 51 (0, 0)))
    (hown : wr.ownsRow base 5 1 d (m + j) ((ys ++ List.replicate j pad).map (Value.int .u8))) (hg : Grew w wr v d n (m + j))
    (hown1 : w1.ownsRow base 5 1 d1 (m + j + 1) ((ys ++ List.replicate j pad).map (Value.int .u8) ++ [Value.int .u8 pad])) (hg1 : Grew (wr.alloc (.cells #[Value.int .u8 pad] 5)) w1 d d1 (m + j) (m + j + 1)) :
    w1.ownsRow base 5 1 d1 (m + (j + 1)) ((ys ++ List.replicate (j + 1) pad).map (Value.int .u8)) ∧ base ≤ w1.heap.size ∧ w1.heap[D]? = some (.cells arr 51 (0, 0)) ∧ Grew w w1 v d1 n (m + (j + 1)) := by
  have hne := other_block hown hD (by decide)
  have hlt := lt_of_block hD
  refine ⟨?_, ?_, ?_, (hg.alloc _).trans hg1⟩
  · rw [List.replicate_succ']
    simpa [Nat.add_assoc] using hown1
  · have := hg1.size
    simp at this
    omega
  · rw [hg1.block D (by simp; omega) hne, Below.heap_alloc _ _ _ hlt, hD]

/-- The digits, as the last append reads them. -/
theorem dig_cells {w : World} {D k : Nat} {arr : Array Value} {acc : List Int} (h : Dig arr (k + 1) acc) (hD : w.heap[D]? = some (.cells arr 51 (0, 0))) :
    ∀ j u, (acc.map (Value.int .u8))[j]? = some u → w.cell? ((⟨D, 19 - k, none⟩ : Addr).add j) = some u := by
  intro j u hu
  rw [Addr.add_lit, cell_of_row w D (19 - k + j) arr 51 (0, 0) hD]
  have e : 20 - (k + 1) = 19 - k := by omega
  rw [← h.2.2, List.getElem?_drop, e] at hu
  simpa using hu

theorem slice_digits (D k : Nat) (hk : k ≤ 18) (wx : World) : (Instr.sliceAt 51 (.pointer (some ⟨D, 0, none⟩)) (some (.int .i64 (20 - (k : Int) - 1))) none none).run Try.prog wx = .ok (.slice (some ⟨D, 19 - k, none⟩) (k + 1) (k + 1)) wx := by
  have hu : Try.prog.underlying 51 = some (.array (Try.prog.arrayLen 51) (Try.prog.elem 51)) := by kernel_rfl
  have ha : Try.prog.arrayLen 51 = 20 := by kernel_rfl
  have he : Try.prog.elem 51 = 5 := by kernel_rfl
  obtain ⟨i0, hi, _, hz1, _⟩ := info_parts Try.info5
  have hs : (sizeOf (Try.prog.elem 51)).run Try.prog wx = .ok 1 wx := by
    rw [he]
    simp [sizeOf, typeInfo, hi, hz1]
  rw [run_sliceAt_array_l wx 51 ⟨D, 0, none⟩ hu .i64 _ (by omega) (by omega), hs]
  have e1 : (20 - (k : Int) - 1).toNat = 19 - k := by omega
  have e2 : ¬ 20 = 19 - k := by omega
  have e3 : 20 - (19 - k) = k + 1 := by omega
  simp only [Result.andThen, slicedAt, e1, ha, if_neg e2, Addr.add_lit, e3, Nat.mul_one, Nat.zero_add]

set_option maxHeartbeats 800000 in
theorem appendInt_any (base : Nat) (v : Value) (n : Nat) (xs : List Int) (x width pad : Int) (w : World) (hx0 : -9223372036854775808 ≤ x) (hx : x ≤ 9223372036854775807) (hw : width ≤ 65536) (hn : n ≤ 1048576)
   (hown : w.ownsRow base 5 1 v n (xs.map (Value.int .u8))) (hbase : base ≤ w.heap.size) :
    Calls Try.prog 26 #[v, .int .i64 x, .int .i64 width, .int .u8 pad] w fun e w' => ∃ v', e = .returned v' ∧
      w'.ownsRow base 5 1 v' (n + (text x width pad).length) ((xs ++ text x width pad).map (Value.int .u8)) ∧ Grew w w' v v' n (n + (text x width pad).length) := by
  obtain ⟨i0, hi, hz0, hz1, hz2⟩ := info_parts Try.info5
  have hmb := mag_bd x hx0 hx
  have hsl := sgn_le x
  go_enter Try.func26, Try.ntmps26
  go_upto_if 13 with fail
  go_cut [0, 1] (fun d y wr => y = .int .i64 (mag x) ∧ wr.ownsRow base 5 1 d (n + (sgn x).length) ((xs ++ sgn x).map (Value.int .u8)) ∧ base ≤ wr.heap.size ∧ Grew w wr v d n (n + (sgn x).length))
  case first =>
    by_cases hneg : x < 0
    · by_cases hmin : x = -9223372036854775808
      · subst hmin
        go_wp2_with (first | (at_builtin; refine wpList_append_keep _ rfl _ _ 22 (by rfl) base 5 i0 (.int .u8 0) 1 Try.underlying22 hi hz0 hz1 hz2 rfl v n _ rfl (hown.alloc _) ⟨w.heap.size, 0, none⟩ 1 1 [.int .u8 45] rfl rfl (cell_one_new _ _ _) (by intro u hu; simp at hu; subst hu; rfl) (by unfold maxLen; omega) (by omega) (by simp; omega) ?_; intro v1 w1 hown1 hgr1))
        go_meet
        case rel => exact ⟨by rw [wrap_min]; rfl, signed hneg hbase hown1 hgr1⟩
      · have hgt : -9223372036854775808 < x := by omega
        have hm : mag x = -x := by simp [mag, hneg, hmin]
        have Hm : Hid (mag x = -x) := hm
        clear hm
        go_wp2_with (first | (at_builtin; refine wpList_append_keep _ rfl _ _ 22 (by rfl) base 5 i0 (.int .u8 0) 1 Try.underlying22 hi hz0 hz1 hz2 rfl v n _ rfl (hown.alloc _) ⟨w.heap.size, 0, none⟩ 1 1 [.int .u8 45] rfl rfl (cell_one_new _ _ _) (by intro u hu; simp at hu; subst hu; rfl) (by unfold maxLen; omega) (by omega) (by simp; omega) ?_; intro v1 w1 hown1 hgr1))
        go_meet
        case rel => exact ⟨by rw [Hm.out], signed hneg hbase hown1 hgr1⟩
    · have Hm : Hid (mag x = x) := by simp [Hid, mag, hneg]
      have Hs : Hid (sgn x = []) := by simp [Hid, sgn, hneg]
      go_wp2_with fail
      go_meet
      case rel => exact ⟨by rw [Hm.out], by rw [Hs.out]; simpa using hown, hbase, by rw [Hs.out]; exact Grew.refl _ _ _⟩
  case rest =>
    obtain ⟨rfl, hown1, hb1, hbel1⟩ := hcut
    have Ht : Hid (text x width pad = sgn x ++ List.replicate (width.toNat - (digs 19 (mag x)).length) pad ++ digs 19 (mag x)) := rfl
    generalize mag x = m at *
    generalize sgn x = s at *
    go_wp2_with fail
    go_loopw [1, 10] (fun y i wr => ∃ (k : Nat) (q : Int) (acc : List Int) (arr : Array Value), k ≤ 18 ∧ y = .int .i64 q ∧ i = .int .i64 (20 - k) ∧ -9223372036854775808 ≤ q ∧ q ≤ 9223372036854775807 ∧ Fits k q m acc ∧ Dig arr k acc ∧ wr = wc.alloc (.cells arr 51)) (fun _ i _ => (intOf i).toNat)
    case atStart => exact ⟨0, m, [], _, by omega, rfl, rfl, hmb.1, hmb.2, fits_start m hmb.1 hmb.2, ⟨rfl, rfl, rfl⟩, rfl⟩
    case round =>
      obtain ⟨k, q, acc, arr, hk, rfl, rfl, hq0, hq1, hfit, hdig, rfl⟩ := hrel
      have hsz : arr.size = 20 := hdig.1
      have htm := tmod_bd q
      have htd := tdiv_bd q hq0 hq1
      obtain ⟨u, hu⟩ : ∃ u, arr[20 - k - 1]? = some u := ⟨_, Array.getElem?_eq_getElem (by omega)⟩
      by_cases hz : (q.tdiv 10 == 0) = true
      · have hdg := fits_stop hk hfit hz
        have hdig2 := dig_step (c := 48 + q.tmod 10) hk hdig
        have hlen : ((48 + q.tmod 10) :: acc).length = k + 1 := hdig2.2.1
        have Hdg : Hid (digs 19 m = (48 + q.tmod 10) :: acc) := hdg
        have Hdig2 : Hid (Dig (arr.setIfInBounds (20 - k - 1) (.int .u8 (48 + q.tmod 10))) (k + 1) ((48 + q.tmod 10) :: acc)) := hdig2
        clear hdg hdig2 hfit hdig
        go_wp2_with fail
        generalize arr.setIfInBounds (20 - k - 1) (.int .u8 (48 + q.tmod 10)) = arr2 at *
        generalize (48 + q.tmod 10) :: acc = ds at *
        go_loopw [0, 11] (fun d c wr => ∃ j : Nat, (j = 0 ∨ (k + 1 + j : Int) ≤ width) ∧ c = .int .i64 (k + 1 + j) ∧ base ≤ wr.heap.size ∧ wr.heap[wc.heap.size]? = some (.cells arr2 51 (0, 0)) ∧ wr.ownsRow base 5 1 d (n + s.length + j) ((xs ++ s ++ List.replicate j pad).map (Value.int .u8)) ∧ Grew w wr v d n (n + s.length + j)) (fun _ c _ => (width - intOf c).toNat)
        case atStart => exact ⟨0, .inl rfl, by go_num, by simp; omega, heap_alloc_new wc _, by simpa using hown1.alloc _, by simpa using hbel1.alloc _⟩
        case round =>
          obtain ⟨j, hj, rfl, hb2, hD2, hown2, hgr2⟩ := hrel
          by_cases hlt : (k + 1 + j : Int) < width
          · go_wp2_with (first | (at_builtin; refine wpList_append_keep _ rfl _ _ 22 (by rfl) base 5 i0 (.int .u8 0) 1 Try.underlying22 hi hz0 hz1 hz2 rfl u0 (n + s.length + j) _ rfl (hown2.alloc _) ⟨wr.heap.size, 0, none⟩ 1 1 [.int .u8 pad] rfl rfl (cell_one_new _ _ _) (by intro u hu; simp at hu; subst hu; rfl) (by unfold maxLen; omega) (by omega) (by simp; omega) ?_; intro v3 w3 hown3 hgr3))
            go_roundw
            case rel =>
              have R := padded hb2 hD2 hown2 hgr2 hown3 hgr3
              exact ⟨j + 1, .inr (by omega), by go_num, R.2.1, R.2.2.1, R.1, R.2.2.2⟩
            case measure => simp [intOf]; omega
          · have hsd := slice_digits wc.heap.size k hk
            have hj2 : Hid (j = width.toNat - (k + 1)) := by show j = _; omega
            have hnews : (ds.map (Value.int .u8)).length = (k + 1) * 1 := by simp [hlen]
            go_wp2_with (first | (at_builtin; refine wpList_append_keep _ rfl _ _ 22 (by rfl) base 5 i0 (.int .u8 0) 1 Try.underlying22 hi hz0 hz1 hz2 rfl u0 (n + s.length + j) _ rfl hown2 ⟨wc.heap.size, 19 - k, none⟩ (k + 1) (k + 1) (ds.map (Value.int .u8)) rfl hnews (dig_cells Hdig2.out hD2) (ints_oneCell _ _) (by unfold maxLen; omega) (by omega) hb2 ?_; intro v3 w3 hown3 hgr3))
            go_ret
            have eT : text x width pad = s ++ List.replicate j pad ++ ds := by rw [Ht.out, Hdg.out, hlen, ← hj2.out]
            have eL : n + s.length + j + (k + 1) = n + (text x width pad).length := by rw [eT]; simp [hlen]; omega
            refine ⟨v3, rfl, ?_, ?_⟩
            · rw [← eL, eT]; simpa using hown3
            · rw [← eL]; exact hgr2.trans hgr3
      · have hz' : (q.tdiv 10 == 0) = false := by simpa using hz
        clear hz
        go_wp2_with fail
        go_roundw
        case rel =>
          have hst := fits_step hk hfit hz'
          exact ⟨k + 1, q.tdiv 10, (48 + q.tmod 10) :: acc, _, hst.1, rfl, by go_num, htd.1, htd.2, hst.2, dig_step hk hdig, rfl⟩
        case measure => simp [intOf]; omega

/-- The exported name. -/
theorem zzAppendInt_any (base : Nat) (v : Value) (n : Nat) (xs : List Int) (x width pad : Int) (w : World) (hx0 : -9223372036854775808 ≤ x) (hx : x ≤ 9223372036854775807) (hw : width ≤ 65536) (hn : n ≤ 1048576)
   (hown : w.ownsRow base 5 1 v n (xs.map (Value.int .u8))) (hbase : base ≤ w.heap.size) :
    Calls Try.prog 12 #[v, .int .i64 x, .int .i64 width, .int .u8 pad] w fun e w' => ∃ v', e = .returned v' ∧
      w'.ownsRow base 5 1 v' (n + (text x width pad).length) ((xs ++ text x width pad).map (Value.int .u8)) ∧ Grew w w' v v' n (n + (text x width pad).length) := by
  go_enter Try.func12, Try.ntmps12
  go_wp2_with fail
  refine (appendInt_any base v n xs x width pad w hx0 hx hw hn hown hbase).mono ?_
  rintro e w1 ⟨v1, rfl, hown1, hgr1⟩
  go_wp2_with fail
  go_ret
  exact ⟨v1, rfl, hown1, hgr1⟩

end Go.Proofs.Qxb6601794a
