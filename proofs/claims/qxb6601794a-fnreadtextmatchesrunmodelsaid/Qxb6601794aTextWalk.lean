/-
  The walks of isBlank, zzBlank, skipBlanks, readText, ZZReadText.
-/
import Derived.Test.Qxb6601794aClone
import Derived.Test.Qxb6601794aText
namespace Go.Proofs.Qxb6601794a
open Go.RowKit

theorem isBlank_any (c : Int) (w : World) : Calls Try.prog 29 #[.int .u8 c] w fun e w' => e = .returned (.bool (blank c)) ∧ w = w' := by
  go_enter Try.func29, Try.ntmps29
  go_wp2_with fail
  all_goals (go_ret; refine ⟨?_, rfl⟩; simp_all [blank])

theorem zzBlank_any (c : Int) (w : World) : Calls Try.prog 23 #[.int .u8 c] w fun e w' => e = .returned (.bool (blank c)) ∧ w = w' := by
  go_enter Try.func23, Try.ntmps23
  go_wp2_with fail
  all_goals (go_ret; refine ⟨?_, rfl⟩; simp_all [blank])

theorem dropWhile_le (xs : List Int) : (xs.dropWhile blank).length ≤ xs.length := by
  induction xs with
  | nil => exact Nat.le_refl _
  | cons c xs ih =>
    rw [List.dropWhile_cons]
    split
    · simp; omega
    · exact Nat.le_refl _

/-- 's = s[1:]' -/
theorem slice_tail {w : World} {a : Option Addr} {n cap : Nat} {c : Int} {xs : List Int} (h : Holds w a (n + 1) (c :: xs)) (hc : n + 1 ≤ cap) :
    ∃ a', (∀ wx, (Instr.sliceAt 22 (.slice a (n + 1) cap) (some (.int .i64 1)) none none).run Try.prog wx = .ok (.slice a' n (cap - 1)) wx) ∧ Holds w a' n xs := by
  have hu : Try.prog.underlying 22 = some (.slice (Try.prog.elem 22)) := by kernel_rfl
  have he : Try.prog.elem 22 = 5 := by kernel_rfl
  obtain ⟨i0, hi, _, hz1, _⟩ := info_parts Try.info5
  obtain ⟨b, o, rfl, hb, hcell⟩ := h.cells (by omega)
  refine ⟨if cap = 1 then some ⟨b, o, none⟩ else some ⟨b, o + 1, none⟩, fun wx => ?_, ?_⟩
  · have hs : (sizeOf (Try.prog.elem 22)).run Try.prog wx = .ok 1 wx := by
      rw [he]
      simp [sizeOf, typeInfo, hi, hz1]
    rw [run_sliceAt_slice wx 22 _ _ _ _ hu, run_slice_l wx 22 _ (n + 1) cap hu .i64 1 (by omega) (by omega), hs]
    have e1 : (1 : Int).toNat = 1 := rfl
    simp only [Result.andThen, sliced, e1, Option.map_some, Addr.add_lit, Nat.mul_one, Nat.add_sub_cancel]
  · refine ⟨by simpa using h.1, fun d hd => h.2.1 d (by simp [hd]), ?_, fun j hj => ?_⟩
    · intro h0
      split at h0 <;> cases h0
    · rw [if_neg (by omega)]
      refine ⟨b, o + 1, rfl, hb, ?_⟩
      have h1 := hcell (j + 1) (by omega)
      have e : o + (j + 1) = o + 1 + j := by omega
      rw [e] at h1
      rw [h1]
      rfl

set_option maxHeartbeats 400000 in
theorem skipBlanks_any (a : Option Addr) (cap : Nat) (xs : List Int) (w : World) (hl : xs.length ≤ 2097152) (hc : xs.length ≤ cap) (h : Holds w a xs.length xs) :
    Calls Try.prog 30 #[.slice a xs.length cap] w fun e w' => ∃ a' cap', e = .returned (.slice a' (xs.dropWhile blank).length cap') ∧ (xs.dropWhile blank).length ≤ cap' ∧ Holds w a' (xs.dropWhile blank).length (xs.dropWhile blank) ∧ w = w' := by
  go_enter Try.func30, Try.ntmps30
  go_wp2_with fail
  go_loop [0] (fun s => ∃ (ys : List Int) (a' : Option Addr) (cap' : Nat), s = .slice a' ys.length cap' ∧ ys.length ≤ 2097152 ∧ ys.length ≤ cap' ∧ Hid (Holds w a' ys.length ys) ∧ Hid (ys.dropWhile blank = xs.dropWhile blank)) (fun s => match s with | .slice _ n _ => n | _ => 0)
  case atStart => exact ⟨xs, a, cap, rfl, hl, hc, h, rfl⟩
  case round =>
    obtain ⟨ys, a', cap', rfl, hyl, hyc, hh, he⟩ := hrel
    cases ys with
    | nil =>
      have E : Hid (xs.dropWhile blank = []) := (unhide he).symm
      go_wp2_with fail
      go_ret
      exact ⟨a', cap', by rw [unhide E]; rfl, by rw [unhide E]; exact Nat.zero_le _, by rw [unhide E]; exact unhide hh, rfl⟩
    | cons c ys =>
      simp only [List.length_cons] at hyl hyc hh ⊢
      obtain ⟨a2, hsl, hh2⟩ := slice_tail (unhide hh) hyc
      obtain ⟨b, o, rfl, hb, hcell⟩ := (unhide hh).2.2.2 0 (by omega)
      have hc0 : w.cell? ⟨b, o, none⟩ = some (.int .u8 c) := hcell
      have hp : (0 : Int) < (ys.length : Int) + 1 := by omega
      have hh2 := hide hh2
      clear hcell
      cases hbl : blank c
      · have E : Hid (xs.dropWhile blank = c :: ys) := by show _ = _; rw [← unhide he]; simp [hbl]
        go_wp2_with (go_at_call 29; refine (isBlank_any _ _).mono ?_; rintro e w' ⟨rfl, rfl⟩; rw [hbl])
        go_ret
        exact ⟨_, cap', by rw [unhide E]; rfl, by rw [unhide E]; exact hyc, by rw [unhide E]; exact unhide hh, rfl⟩
      · have E : Hid (ys.dropWhile blank = xs.dropWhile blank) := by show _ = _; rw [← unhide he]; simp [hbl]
        go_wp2_with (go_at_call 29; refine (isBlank_any _ _).mono ?_; rintro e w' ⟨rfl, rfl⟩; rw [hbl])
        go_round
        case rel => exact ⟨ys, a2, cap' - 1, rfl, by omega, by omega, hh2, E⟩
        case measure => simp

set_option maxHeartbeats 800000 in
theorem readText_any (s : ByteArray) (a : Option Addr) (cap : Nat) (xs : List Int) (w : World) (hs : s.size ≤ 1048576) (hl : xs.length ≤ 2097152) (hc : xs.length ≤ cap) (h : Holds w a xs.length xs) :
    Calls Try.prog 28 #[.string s, .slice a xs.length cap] w fun e w' => ∃ a' cap', e = .returned (.tuple #[.slice a' (rt (bytesOf s) xs).1.length cap', .bool (rt (bytesOf s) xs).2]) ∧
      (rt (bytesOf s) xs).1.length ≤ cap' ∧ Holds w a' (rt (bytesOf s) xs).1.length (rt (bytesOf s) xs).1 ∧ w = w' := by
  go_enter Try.func28, Try.ntmps28
  go_wp2_with fail
  go_loop [1, 6] (fun v i => ∃ (k : Nat) (ys : List Int) (a' : Option Addr) (cap' : Nat), k ≤ s.size ∧ i = .int .i64 k ∧ v = .slice a' ys.length cap' ∧ ys.length ≤ 2097152 ∧ ys.length ≤ cap' ∧ Hid (Holds w a' ys.length ys) ∧ Hid (rt ((bytesOf s).drop k) ys = rt (bytesOf s) xs)) (fun _ i => s.size - (intOf i).toNat)
  case atStart => exact ⟨0, xs, a, cap, by omega, rfl, rfl, hl, hc, h, rfl⟩
  case round =>
    obtain ⟨k, ys, a', cap', hk, rfl, rfl, hyl, hyc, hh, he⟩ := hrel
    by_cases hlt : k < s.size
    · have hdr : Hid ((bytesOf s).drop k = ((s[k].toNat : Nat) : Int) :: (bytesOf s).drop (k + 1)) := by
        show _ = _
        rw [drop_cons_getD (by rw [bytesOf_length]; exact hlt), bytesOf_at s k hlt]
      cases hbl : blank ((s[k].toNat : Nat) : Int)
      · cases ys with
        | nil =>
          have E : Hid (rt (bytesOf s) xs = ([], false)) := by show _ = _; rw [← unhide he, unhide hdr, rt_out hbl]
          go_wp2_with fail
          refine (isBlank_any _ _).mono ?_
          rintro e w' ⟨rfl, rfl⟩
          rw [hbl]
          go_wp2_with fail
          go_ret2
          exact ⟨a', cap', by rw [unhide E]; rfl, by rw [unhide E]; exact Nat.zero_le _, by rw [unhide E]; exact unhide hh, rfl⟩
        | cons d ys =>
          simp only [List.length_cons] at hyl hyc hh ⊢
          obtain ⟨a2, hsl, hh2⟩ := slice_tail (unhide hh) hyc
          obtain ⟨b, o, rfl, hb, hcell⟩ := (unhide hh).2.2.2 0 (by omega)
          have hc0 : w.cell? ⟨b, o, none⟩ = some (.int .u8 d) := hcell
          have hp : (0 : Int) < (ys.length : Int) + 1 := by omega
          have hh2 := hide hh2
          clear hcell
          cases hdc : (d == ((s[k].toNat : Nat) : Int))
          · have E : Hid (rt (bytesOf s) xs = (d :: ys, false)) := by show _ = _; rw [← unhide he, unhide hdr, rt_miss hbl hdc]
            go_wp2_with fail
            refine (isBlank_any _ _).mono ?_
            rintro e w' ⟨rfl, rfl⟩
            rw [hbl]
            go_wp2_with fail
            go_ret2
            exact ⟨_, cap', by rw [unhide E]; rfl, by rw [unhide E]; exact hyc, by rw [unhide E]; exact unhide hh, rfl⟩
          · have E : Hid (rt ((bytesOf s).drop (k + 1)) ys = rt (bytesOf s) xs) := by
              show _ = _
              have hd : d = ((s[k].toNat : Nat) : Int) := by simpa using hdc
              rw [← unhide he, unhide hdr, hd, rt_hit hbl]
            go_wp2_with fail
            refine (isBlank_any _ _).mono ?_
            rintro e w' ⟨rfl, rfl⟩
            rw [hbl]
            go_wp2_with fail
            go_round
            case rel => exact ⟨k + 1, ys, a2, cap' - 1, by omega, by go_num, rfl, by omega, by omega, hh2, E⟩
            case measure => simp [intOf]; omega
      · have E : Hid (rt ((bytesOf s).drop (k + 1)) (ys.dropWhile blank) = rt (bytesOf s) xs) := by show _ = _; rw [← unhide he, unhide hdr, rt_blank hbl]
        have hdl : (ys.dropWhile blank).length ≤ ys.length := dropWhile_le _
        go_wp2_with fail
        refine (isBlank_any _ _).mono ?_
        rintro e w' ⟨rfl, rfl⟩
        rw [hbl]
        go_wp2_with fail
        refine (skipBlanks_any a' cap' ys w hyl hyc (unhide hh)).mono ?_
        rintro e w' ⟨a2, cap2, rfl, hc2, hh2, rfl⟩
        have hh2 := hide hh2
        go_wp2_with fail
        go_round
        case rel => exact ⟨k + 1, ys.dropWhile blank, a2, cap2, by omega, by go_num, rfl, by omega, hc2, hh2, E⟩
        case measure => simp [intOf]; omega
    · have E : Hid (rt (bytesOf s) xs = (ys, true)) := by
        show _ = _
        rw [← unhide he, List.drop_of_length_le (by rw [bytesOf_length]; omega)]
        rfl
      go_wp2_with fail
      go_ret2
      exact ⟨a', cap', by rw [unhide E]; rfl, by rw [unhide E]; exact hyc, by rw [unhide E]; exact unhide hh, rfl⟩

theorem zzReadText_any (s : ByteArray) (a : Option Addr) (cap : Nat) (xs : List Int) (w : World) (hs : s.size ≤ 1048576) (hl : xs.length ≤ 2097152) (hc : xs.length ≤ cap) (h : Holds w a xs.length xs) :
    Calls Try.prog 20 #[.string s, .slice a xs.length cap] w fun e w' => ∃ a' cap', e = .returned (.tuple #[.slice a' (rt (bytesOf s) xs).1.length cap', .bool (rt (bytesOf s) xs).2]) ∧
      (rt (bytesOf s) xs).1.length ≤ cap' ∧ Holds w a' (rt (bytesOf s) xs).1.length (rt (bytesOf s) xs).1 ∧ w = w' := by
  go_enter Try.func20, Try.ntmps20
  go_wp2_with fail
  refine (readText_any s a cap xs w hs hl hc h).mono ?_
  rintro e w1 ⟨a1, cap1, rfl, hc1, hh1, rfl⟩
  go_wp2_with fail
  go_ret2
  exact ⟨a1, cap1, rfl, hc1, hh1, rfl⟩

end Go.Proofs.Qxb6601794a
