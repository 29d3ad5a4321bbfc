/-
  The walk of 'FnReadTextReadsItsOwnText'.
-/
import Derived.Test.Qxb6601794aTextWalk
import Derived.Deep.QuietTactic
import Derived.BigQuiet
namespace Go.Proofs.Qxb6601794a
open Go.RowKit

theorem bytes22_any (s : ByteArray) (a : Option Addr) (len cap : Nat) (w : World) (hs : s.size ≤ maxLen) (hm : len ≤ maxLen) :
    Calls Try.prog 22 #[.string s, .slice a len cap] w fun e w' => e = .returned (.bool (decide (s.size + len ≤ 1048576))) ∧ w = w' := by
  unfold maxLen at hs hm
  by_cases h : s.size + len ≤ 1048576
  · go_enter Try.func22, Try.ntmps22
    go_wp2_with fail
    go_ret
    exact ⟨by simp [h], rfl⟩
  · go_enter Try.func22, Try.ntmps22
    go_wp2_with fail
    all_goals (go_ret; exact ⟨by simp [h], rfl⟩)

theorem zzReadText_len (s : ByteArray) (a : Option Addr) (n cap : Nat) (xs : List Int) (w : World) (hn : xs.length = n) (hs : s.size ≤ 1048576) (hl : n ≤ 2097152) (hc : n ≤ cap) (h : Holds w a n xs) :
    Calls Try.prog 20 #[.string s, .slice a n cap] w fun e w' => ∃ a' cap', e = .returned (.tuple #[.slice a' (rt (bytesOf s) xs).1.length cap', .bool (rt (bytesOf s) xs).2]) ∧
      (rt (bytesOf s) xs).1.length ≤ cap' ∧ Holds w a' (rt (bytesOf s) xs).1.length (rt (bytesOf s) xs).1 ∧ w = w' := by
  subst hn
  exact zzReadText_any s a cap xs w hs hl hc h

theorem owns_cap {w : World} {base n cap : Nat} {a : Option Addr} {xs : List Value} (h : w.ownsRow base 5 1 (.slice a n cap) n xs) : n ≤ cap := by
  rcases h.2 with ⟨h1, rfl⟩ | ⟨g, cap', cur, h1, _, _, hc, _⟩
  · exact Nat.zero_le _
  · simp at h1; omega

theorem holds_owned {w : World} {base n cap : Nat} {a : Option Addr} {xs : List Int} (h : w.ownsRow base 5 1 (.slice a n cap) n (xs.map (Value.int .u8))) (hb : ∀ c ∈ xs, 0 ≤ c ∧ c ≤ 255) : Holds w a n xs := by
  obtain ⟨a', cap', e, hh⟩ := holds_of_owns h hb
  simp at e
  obtain ⟨rfl, rfl⟩ := e
  exact hh

theorem bytesOf_bd (s : ByteArray) : ∀ c ∈ bytesOf s, 0 ≤ c ∧ c ≤ 255 := by
  intro c hc
  unfold bytesOf at hc
  obtain ⟨b, _, rfl⟩ := List.mem_map.1 hc
  have := b.toNat_lt
  omega

theorem at_drop {xs : List Int} {m k : Nat} : at' (xs.drop m) k = at' xs (m + k) := by
  unfold at'
  simp [List.getD]

/-- How many blanks of the tail are eaten. -/
def eaten (t tail : List Int) : Nat := tail.length - (fin t tail).length

theorem dropWhile_drop (xs : List Int) : xs.dropWhile blank = xs.drop (xs.length - (xs.dropWhile blank).length) := by
  induction xs with
  | nil => rfl
  | cons c xs ih =>
    have hle := dropWhile_le xs
    rw [List.dropWhile_cons]
    split
    · have e : (c :: xs).length - (xs.dropWhile blank).length = (xs.length - (xs.dropWhile blank).length) + 1 := by simp; omega
      rw [e, List.drop_succ_cons, ← ih]
    · simp

theorem fin_drop (t tail : List Int) : fin t tail = tail.drop (eaten t tail) ∧ eaten t tail ≤ tail.length := by
  unfold eaten fin
  refine ⟨?_, by omega⟩
  split
  · exact dropWhile_drop tail
  · simp

set_option maxHeartbeats 1600000 in
set_option maxRecDepth 10000 in
theorem ownText (s : ByteArray) (a : Option Addr) (len cap : Nat) (xs : List Int) (w : World) (hsum : s.size + len ≤ 1048576) (h : Holds w a len xs) :
    Calls Try.prog 8 #[.string s, .slice a len cap] w fun e w' => e = .returned (.bool true) ∧ Below w.heap.size w w' := by
  obtain ⟨i0, hi, hz0, hz1, hz2⟩ := info_parts Try.info5
  have hxl := h.1
  have hTl := bytesOf_length s
  have hd : decide (s.size + len ≤ 1048576) = true := by simp [hsum]
  go_enter Try.func8, Try.ntmps8
  go_wp2_with fail
  refine (bytes22_any s a len cap w (by unfold maxLen; omega) (by unfold maxLen; omega)).mono ?_
  rintro e w0 ⟨rfl, rfl⟩
  rw [hd]
  clear hd
  go_wp2_with fail
  refine (clone_any a len cap xs w (by omega) h).mono ?_
  rintro e w1 ⟨v1, rfl, hown1, hbel1⟩
  obtain ⟨a1, c1, rfl, hold1⟩ := holds_of_owns hown1 h.2.1
  clear hown1
  have hZ : ((bytesOf s) ++ xs).length = s.size + len := by simp [hTl, hxl]
  go_wp2_with (first | (at_make; refine wpList_make_full _ rfl _ _ 22 (by rfl) w1.heap.size 5 i0 (.int .u8 0) 1 Try.underlying22 hi hz0 hz1 .i64 .i64 _ _ (s.size + len) rfl rfl (by omega) (by omega) (by rw [hz2]; omega) (by unfold maxLen; omega) (Nat.le_refl _) ?_; intro w2 hown2 hgr2))
  have hbel2 : Below w1.heap.size w1 w2 := (Below.refl _ _).grown hgr2 (Nat.le_refl _) (by intro k h; cases h)
  have hown2' : w2.ownsRow w1.heap.size 5 1 (.slice (some ⟨w1.heap.size, 0, none⟩) (s.size + len) (s.size + len)) (s.size + len) ((cur (bytesOf s ++ xs) 0).map (Value.int .u8)) := by
    rw [← cur_zero, hZ]; exact hown2
  have hZ := hide hZ
  have hold1 := hide hold1
  have hTl := hide hTl
  clear hown2 hgr2 hxl
  go_loopw [6] (fun i wr => ∃ k : Nat, k ≤ s.size ∧ i = .int .i64 k ∧ wr.ownsRow w1.heap.size 5 1 (.slice (some ⟨w1.heap.size, 0, none⟩) (s.size + len) (s.size + len)) (s.size + len) ((cur (bytesOf s ++ xs) k).map (Value.int .u8)) ∧ Below w1.heap.size w1 wr) (fun i _ => s.size - (intOf i).toNat)
  case atStart => exact ⟨0, by omega, rfl, hown2', hbel2⟩
  case round =>
    obtain ⟨k, hk, rfl, hown, hbel⟩ := hrel
    by_cases hlt : k < s.size
    · obtain ⟨u, hcd⟩ : ∃ u, wr.cell? ⟨w1.heap.size, k, none⟩ = some u := ⟨_, own_cell hown k (by omega)⟩
      have hfd : wr.frozen? ⟨w1.heap.size, k, none⟩ = false := hown.frozenAt k
      have R := hown.stored k (.int .u8 (at' (bytesOf s ++ xs) k))
      rw [cur_step _ k (by rw [unhide hZ]; omega)] at R
      have hbel3 := hbel.setCell (p := ⟨w1.heap.size, k, none⟩) (Nat.le_refl _) (.int .u8 (at' (bytesOf s ++ xs) k))
      rw [at_append_left (by rw [unhide hTl]; exact hlt), bytesOf_at s k hlt] at R hbel3
      have HR := hide R.1
      have HB := hide hbel3
      have hb1 : (k : Int) < (s.size : Int) + len := by omega
      clear R hbel3 hown hown2'
      go_wp2_with fail
      go_roundw
      case rel => exact ⟨k + 1, by omega, by go_num, unhide HR, unhide HB⟩
      case measure => simp [intOf]; omega
    · obtain rfl : s.size = k := by omega
      clear hown2' hbel2
      go_wp2_with fail
      go_loopw [7] (fun i wy => ∃ k : Nat, k ≤ len ∧ i = .int .i64 k ∧ wy.ownsRow w1.heap.size 5 1 (.slice (some ⟨w1.heap.size, 0, none⟩) (s.size + len) (s.size + len)) (s.size + len) ((cur (bytesOf s ++ xs) (s.size + k)).map (Value.int .u8)) ∧ Below w1.heap.size w1 wy) (fun i _ => len - (intOf i).toNat)
      case atStart => exact ⟨0, by omega, rfl, hown, hbel⟩
      case round =>
        clear hown hbel
        obtain ⟨k, hk, rfl, hown, hbel⟩ := hrel
        by_cases hlt : k < len
        · obtain ⟨b, o, rfl, hb, hc⟩ := (unhide hold1).2.2.2 k hlt
          have hcs := (hbel.cell (p := ⟨b, o + k, none⟩) hb).trans hc
          obtain ⟨u, hcd⟩ : ∃ u, wr.cell? ⟨w1.heap.size, s.size + k, none⟩ = some u := ⟨_, own_cell hown (s.size + k) (by omega)⟩
          have hfd : wr.frozen? ⟨w1.heap.size, s.size + k, none⟩ = false := hown.frozenAt _
          have R := hown.stored (s.size + k) (.int .u8 (at' (bytesOf s ++ xs) (s.size + k)))
          rw [cur_step _ (s.size + k) (by rw [unhide hZ]; omega)] at R
          have hbel3 := hbel.setCell (p := ⟨w1.heap.size, s.size + k, none⟩) (Nat.le_refl _) (.int .u8 (at' (bytesOf s ++ xs) (s.size + k)))
          have eat : at' (bytesOf s ++ xs) (s.size + k) = at' xs k := by rw [← unhide hTl, at_append_right]
          rw [eat] at R hbel3
          have HR := hide R.1
          have HB := hide hbel3
          have hb1 : (s.size : Int) + k < (s.size : Int) + len := by omega
          clear R hbel3 hown hc eat
          go_wp2_with fail
          go_roundw
          case rel => exact ⟨k + 1, by omega, by go_num, unhide HR, unhide HB⟩
          case measure => simp [intOf]; omega
        · obtain rfl : len = k := by omega
          rw [← unhide hZ, cur_end, unhide hZ] at hown
          have hHZ : Holds wr (some ⟨w1.heap.size, 0, none⟩) (s.size + len) (bytesOf s ++ xs) := holds_owned hown (by
            intro c hc
            rcases List.mem_append.1 hc with hc | hc
            · exact bytesOf_bd s c hc
            · exact (unhide hold1).2.1 c hc)
          have hHX := hide ((unhide hold1).later hbel (Nat.le_refl _))
          have hbelw : Below w.heap.size w wr := hbel1.trans (hbel.mono hbel1.size)
          have hbelw := hide hbelw
          clear hown hbel hbel1 hold1
          go_wp2_with fail
          refine (zzReadText_len s _ (s.size + len) (s.size + len) (bytesOf s ++ xs) wr (unhide hZ) (by omega) (by omega) (Nat.le_refl _) hHZ).mono ?_
          rintro e wy ⟨a2, cap2, rfl, hc2, hh2, rfl⟩
          simp only [(rt_own xs (bytesOf s)).1] at hc2 hh2 ⊢
          obtain ⟨E, HE⟩ : ∃ E, Hid (E = eaten (bytesOf s) xs) := ⟨_, rfl⟩
          have hxl : xs.length = len := (unhide hHX).1
          have hE : E ≤ len := by rw [unhide HE, ← hxl]; exact (fin_drop (bytesOf s) xs).2
          have HR : Hid (fin (bytesOf s) xs = xs.drop E) := by show _ = _; rw [unhide HE]; exact (fin_drop (bytesOf s) xs).1
          have eRl : (fin (bytesOf s) xs).length = len - E := by rw [unhide HR, List.length_drop, hxl]
          rw [eRl] at hc2 hh2 ⊢
          rw [unhide HR] at hh2
          replace hh2 := hide hh2
          replace hxl := hide hxl
          clear hHZ eRl HR
          go_upto_region 21 with fail
          go_cut [84] (fun t wx => t = .bool (lastB (bytesOf s)) ∧ wr = wx)
          case first =>
            by_cases hpos : 0 < s.size
            · have hlb : Hid (lastB (bytesOf s) = blank ((s[s.size - 1].toNat : Nat) : Int)) := by
                show _ = _
                rw [lastB_at _ (by rw [unhide hTl]; exact hpos), unhide hTl, bytesOf_at s _ (by omega)]
              go_wp2_with fail
              refine (zzBlank_any _ _).mono ?_
              rintro e wx ⟨rfl, rfl⟩
              rw [← unhide hlb]
              go_wp2_with fail
              go_meet
              case rel => exact ⟨rfl, rfl⟩
            · have hlb : Hid (lastB (bytesOf s) = false) := by
                show _ = _
                rw [List.eq_nil_of_length_eq_zero (l := bytesOf s) (by rw [unhide hTl]; omega)]
                rfl
              go_wp2_with fail
              go_meet
              case rel => exact ⟨by rw [unhide hlb], rfl⟩
          case rest =>
          obtain ⟨rfl, rfl⟩ := hcut
          go_upto_if 84 with fail
          go_cut [10, 84] (fun t _ wx => t = .int .i64 (E : Nat) ∧ wr = wx)
          case first =>
            cases hlb : lastB (bytesOf s)
            · have HE0 : Hid (E = 0) := by
                show _ = _
                rw [unhide HE]
                simp [eaten, fin, hlb]
              go_wp2_with fail
              go_meet
              case rel => exact ⟨by rw [unhide HE0]; rfl, rfl⟩
            · have HE1 : Hid (E = len - (xs.dropWhile blank).length) := by
                show _ = _
                rw [unhide HE]
                simp [eaten, fin, hlb, unhide hxl]
              go_wp2_with fail
              go_loop [10] (fun t => ∃ k : Nat, k ≤ len ∧ t = .int .i64 k ∧ Hid ((xs.drop k).dropWhile blank = xs.dropWhile blank)) (fun t => len - (intOf t).toNat)
              case atStart => exact ⟨0, by omega, rfl, rfl⟩
              case round =>
                obtain ⟨k, hk, rfl, hdr⟩ := hrel
                by_cases hlt : k < len
                · obtain ⟨b, o, rfl, hb, hc⟩ := (unhide hHX).2.2.2 k hlt
                  have hdk : Hid (xs.drop k = at' xs k :: xs.drop (k + 1)) := drop_cons_getD (by rw [unhide hxl]; exact hlt)
                  cases hbl : blank (at' xs k)
                  · have HEk : Hid (E = k) := by
                      show _ = _
                      have := unhide hdr
                      rw [unhide hdk, List.dropWhile_cons, if_neg (by simp [hbl]), ← unhide hdk] at this
                      rw [unhide HE1, ← this, List.length_drop, unhide hxl]
                      omega
                    go_wp2_with fail
                    refine (zzBlank_any _ _).mono ?_
                    rintro e wx ⟨rfl, rfl⟩
                    rw [hbl]
                    go_wp2_with fail
                    go_meet
                    case rel => exact ⟨by rw [unhide HEk], rfl⟩
                  · have hnx : Hid ((xs.drop (k + 1)).dropWhile blank = xs.dropWhile blank) := by
                      show _ = _
                      rw [← unhide hdr, unhide hdk, List.dropWhile_cons, if_pos hbl]
                    go_wp2_with fail
                    refine (zzBlank_any _ _).mono ?_
                    rintro e wx ⟨rfl, rfl⟩
                    rw [hbl]
                    go_wp2_with fail
                    go_round
                    case rel => exact ⟨k + 1, by omega, by go_num, hnx⟩
                    case measure => simp [intOf]; omega
                · obtain rfl : len = k := by omega
                  have HEk : Hid (E = len) := by
                    show _ = _
                    have := unhide hdr
                    rw [List.drop_of_length_le (by rw [unhide hxl]; exact Nat.le_refl _)] at this
                    rw [unhide HE1, ← this]
                    rfl
                  go_wp2_with fail
                  go_meet
                  case rel => exact ⟨by rw [unhide HEk], rfl⟩
          case rest =>
          obtain ⟨rfl, rfl⟩ := hcut
          have hsub : ((len - E : Nat) : Int) = (len : Int) - E := by omega
          have hne : (((len - E : Nat) : Int) != (len : Int) - E) = false := by simp; omega
          go_wp2_with fail
          clear hne
          go_loopw [11] (fun i wx => ∃ k : Nat, k ≤ len - E ∧ i = .int .i64 k ∧ Below wr.heap.size wr wx) (fun i _ => len - E - (intOf i).toNat)
          case atStart => exact ⟨0, by omega, rfl, Below.refl _ _⟩
          case round =>
            obtain ⟨k, hk, rfl, hbel⟩ := hrel
            by_cases hlt : k < len - E
            · obtain ⟨b2, o2, rfl, hb2, hcr⟩ := (unhide hh2).2.2.2 k hlt
              obtain ⟨b1, o1, rfl, hb1, hct⟩ := (unhide hHX).2.2.2 (E + k) (by omega)
              have hc1 := (hbel.cell (p := ⟨b2, o2 + k, none⟩) hb2).trans hcr
              have hc2' := (hbel.cell (p := ⟨b1, o1 + (E + k), none⟩) hb1).trans hct
              rw [at_drop] at hc1
              generalize at' xs (E + k) = c at *
              have g1 : (k : Int) < ((len - E : Nat) : Int) := by omega
              have g2 : (0 : Int) ≤ (k : Int) := by omega
              have g3 : (E : Int) + k < (len : Int) := by omega
              have g4 : (0 : Int) ≤ (E : Int) + k := by omega
              clear hcr hct
              go_wp2_with fail
              go_quiet (fail)
              go_wp2_with fail
              go_roundw
              case rel => exact ⟨k + 1, by omega, by go_num, below_drewN hbel _⟩
              case measure => simp [intOf]; omega
            · go_wp2_with fail
              go_ret
              exact ⟨rfl, (unhide hbelw).trans (hbel.mono (unhide hbelw).size)⟩

end Go.Proofs.Qxb6601794a
