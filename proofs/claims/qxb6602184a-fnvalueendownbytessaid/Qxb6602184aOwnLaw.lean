/-
  The walk of 'FnValueEndOwnBytes'.
-/
import Derived.Test.Qxb6602184aLaws
namespace Go.Proofs.Qxb6602184a
open Go.RowKit

/-- 'sub := data[i:r]' -/
theorem slice_sub {w : World} {a : Option Addr} {len cap i r : Nat} {xs : List Int} (h : Holds w a len xs) (hc : len ≤ cap) (hi : i < r) (hr : r ≤ len) :
    ∃ a', (∀ wx, (Instr.sliceAt 22 (.slice a len cap) (some (.int .i64 i)) (some (.int .i64 r)) none).run Try.prog wx = .ok (.slice a' (r - i) (cap - i)) wx) ∧ Holds w a' (r - i) ((xs.drop i).take (r - i)) := by
  have hu : Try.prog.underlying 22 = some (.slice (Try.prog.elem 22)) := by kernel_rfl
  have he : Try.prog.elem 22 = 5 := by kernel_rfl
  obtain ⟨i0, hi0, _, hz1, _⟩ := info_parts Try.info5
  obtain ⟨b, o, rfl, hb, hcell⟩ := h.cells (by omega)
  refine ⟨some ⟨b, o + i, none⟩, fun wx => ?_, ?_⟩
  · have hs : (sizeOf (Try.prog.elem 22)).run Try.prog wx = .ok 1 wx := by
      rw [he]
      simp [sizeOf, typeInfo, hi0, hz1]
    rw [run_sliceAt_slice wx 22 _ _ _ _ hu, run_slice_lh wx 22 _ len cap hu .i64 .i64 i r (by omega) (by omega) (by omega), hs]
    have e1 : ¬ cap = i := by omega
    simp only [Result.andThen, sliced, Int.toNat_natCast, if_neg e1, Option.map_some, Addr.add_lit, Nat.mul_one]
  · refine ⟨by have := h.1; simp; omega, fun d hd => h.2.1 d (List.mem_of_mem_drop (List.mem_of_mem_take hd)), (fun h0 => by cases h0), fun j hj => ⟨b, o + i, rfl, hb, ?_⟩⟩
    have h1 := hcell (i + j) (by omega)
    rw [Nat.add_assoc, h1, at_take hj, at_drop]

set_option maxHeartbeats 800000 in
set_option maxRecDepth 10000 in
theorem ownLaw (a : Option Addr) (len cap : Nat) (xs : List Int) (x : Int) (w : World) (hl : len ≤ 65536) (h : Holds w a len xs) :
    Calls Try.prog 8 #[.slice a len cap, .int .i64 x] w fun e w' => e = .returned (.bool true) ∧ Below w.heap.size w w' := by
  have hd : decide (len ≤ 1048576) = true := by simp; omega
  have hxl := hide h.1
  go_enter Try.func8, Try.ntmps8
  go_wp2_with fail
  refine (bytes21_any a len cap x w (by unfold maxLen; omega)).mono ?_
  rintro e w0 ⟨rfl, rfl⟩
  rw [hd]
  clear hd
  go_wp2_with fail
  refine (clone_any a len cap xs w (by omega) h).mono ?_
  rintro e w1 ⟨a1, c1, rfl, hc1, hold, hbel⟩
  clear h
  replace hold := hide hold
  by_cases hx : x < 0 ∨ (len : Int) ≤ x
  · go_wp2_with fail
    refine (inDomain_out a1 len c1 x w1 (by omega) hx).mono ?_
    rintro e wx ⟨rfl, rfl⟩
    clear hx
    go_wp2_with fail
    go_ret
    exact ⟨rfl, hbel⟩
  · obtain ⟨i, rfl⟩ := Int.eq_ofNat_of_zero_le (show 0 ≤ x by omega)
    have hi : i < len := by omega
    clear hx
    go_wp2_with fail
    refine (inDomain_any a1 len c1 xs i w1 (by omega) hi (unhide hold)).mono ?_
    rintro e w2 ⟨rfl, hb2⟩
    have hbel2 : Below w.heap.size w w2 := hbel.trans (hb2.mono hbel.size)
    have hold2 := hide ((unhide hold).later hb2 (Nat.le_refl _))
    clear hb2 hbel hold
    cases hdo : domO xs i with
    | none =>
      rw [show okB none = false from rfl, show endN i none = 0 from rfl]
      clear hdo
      go_wp2_with fail
      go_ret
      exact ⟨rfl, hbel2⟩
    | some n =>
      have hve := ve_of_dom hdo
      have hnb := valO_bd hve.1
      rw [unhide hxl] at hnb
      have hG : G 0 ((xs.drop i).take n) = some n := G_own hve.1
      rw [show okB (some n) = true from rfl, show endN i (some n) = i + n from rfl]
      clear hdo
      go_wp2_with fail
      refine (zzValueEnd_any a1 len c1 xs i n w2 (by omega) (unhide hold2) hi hve.2).mono ?_
      rintro e wx ⟨rfl, rfl⟩
      clear hve
      obtain ⟨r, hr⟩ : ∃ r, r = i + n := ⟨_, rfl⟩
      have hn : n = r - i := by omega
      have hir : i < r := by omega
      have hrl : r ≤ len := by omega
      obtain ⟨a3, hsl, hsub⟩ := slice_sub (unhide hold2) hc1 hir hrl
      rw [← hn] at hsl hsub
      generalize (xs.drop i).take n = ys at *
      have hyl : ys.length = n := hsub.1
      have hdom : domO ys 0 = some n := by
        refine domO_yes hG ?_
        simp [domA, hyl]
      have hve2 := (ve_of_dom hdom).2
      have hnl : n ≤ 1048576 := by omega
      have hn0 : 0 < n := hnb.1
      rw [← hr]
      have hri : ((r : Int) - i) = n := by omega
      have HRI := hide hri
      have HD := hide hdom
      have HV := hide hve2
      have HS := hide hsub
      clear hri hdom hve2 hsub hG hyl hn hnb hr
      go_wp2_with fail
      rw [show (0 : Int) = ((0 : Nat) : Int) from rfl]
      refine (inDomain_any a3 n (c1 - i) ys 0 w2 hnl hn0 (unhide HS)).mono ?_
      rintro e w3 ⟨rfl, hb3⟩
      rw [unhide HD, show okB (some n) = true from rfl, show endN 0 (some n) = 0 + n from rfl]
      have hbel3 : Below w.heap.size w w3 := hbel2.trans (hb3.mono hbel2.size)
      have HS3 := hide ((unhide HS).later hb3 (Nat.le_refl _))
      clear hb3 hbel2
      go_wp2_with fail
      refine (zzValueEnd_any a3 n (c1 - i) ys 0 n w3 hnl (unhide HS3) hn0 (unhide HV)).mono ?_
      rintro e wx ⟨rfl, rfl⟩
      go_wp2_with fail
      go_ret
      exact ⟨ret_bool (by rw [unhide HRI]; simp), hbel3⟩

end Go.Proofs.Qxb6602184a
