/-
  The walks of zzReadModel and of 'FnReadTextMatchesRunModel'.
-/
import Derived.Test.Qxb6601794aOwnWalk
namespace Go.Proofs.Qxb6601794a
open Go.RowKit

/-- Leading blanks of the text skip leading blanks of s. -/
theorem rt_skip {T ys : List Int} {p : Nat} (hp : p < T.length) (hb : blank (at' T p) = true) : rt (T.drop p) ys = rt (T.drop (p + 1)) (ys.dropWhile blank) := by
  rw [drop_cons_getD hp, rt_blank hb]

theorem rt_same {T ys : List Int} {p : Nat} (hp : p < T.length) (hb : blank (at' T p) = true) : rt (T.drop p) (ys.dropWhile blank) = rt (T.drop p) ys := by
  rw [rt_skip hp hb, rt_skip (ys := ys) hp hb, dropWhile_twice]

theorem rt_step {T xs : List Int} {p q : Nat} (hp : p < T.length) (hq : q < xs.length) (hb : blank (at' T p) = false) (he : at' xs q = at' T p) : rt (T.drop p) (xs.drop q) = rt (T.drop (p + 1)) (xs.drop (q + 1)) := by
  rw [drop_cons_getD hp, drop_cons_getD hq, he, rt_hit hb]

theorem rt_stop {T xs : List Int} {p q : Nat} (hp : p < T.length) (hb : blank (at' T p) = false) (he : q < xs.length → (at' xs q == at' T p) = false) : rt (T.drop p) (xs.drop q) = (xs.drop q, false) := by
  rw [drop_cons_getD hp]
  by_cases hq : q < xs.length
  · rw [drop_cons_getD hq, rt_miss hb (he hq)]
  · rw [List.drop_of_length_le (l := xs) (by omega), rt_out hb]

theorem index_sum (s : ByteArray) (p n : Nat) (h : p + n < s.size) (wx : World) : (Instr.index 9 (.string s) (.int .i64 ((p : Int) + n))).run Try.prog wx = .ok (.int .u8 (at' (bytesOf s) (p + n))) wx := by
  rw [run_index_string wx 9 s .i64 _ Try.underlying9, dif_pos ⟨by omega, by omega⟩, bytesOf_at s (p + n) h]
  have e : ((p : Int) + n).toNat = p + n := by omega
  simp only [e]

set_option maxHeartbeats 1600000 in
set_option maxRecDepth 10000 in
theorem readModel_any (s : ByteArray) (a : Option Addr) (len cap : Nat) (xs : List Int) (w : World) (hs : s.size ≤ 1048576) (hl : len ≤ 1048576) (h : Holds w a len xs) :
    Calls Try.prog 21 #[.string s, .slice a len cap] w fun e w' => ∃ (j : Nat) (ok : Bool), e = .returned (.tuple #[.int .i64 j, .bool ok]) ∧ j ≤ len ∧ rt (bytesOf s) xs = (xs.drop j, ok) ∧ Below w.heap.size w w' := by
  have hxl := hide h.1
  have hTl := hide (bytesOf_length s)
  replace h := hide h
  go_enter Try.func21, Try.ntmps21
  go_wp2_with fail
  go_loopw [6, 7] (fun i j wr => ∃ p q : Nat, p ≤ s.size ∧ q ≤ len ∧ i = .int .i64 p ∧ j = .int .i64 q ∧ Hid (rt ((bytesOf s).drop p) (xs.drop q) = rt (bytesOf s) xs) ∧ Below w.heap.size w wr) (fun i _ _ => s.size - (intOf i).toNat)
  case atStart => exact ⟨0, 0, by omega, by omega, rfl, rfl, rfl, Below.refl _ _⟩
  case round =>
    obtain ⟨p, q, hp, hq, rfl, rfl, hrt, hbel⟩ := hrel
    by_cases hlt : p < s.size
    case neg =>
      have E : Hid (rt (bytesOf s) xs = (xs.drop q, true)) := by
        show _ = _
        rw [← unhide hrt, List.drop_of_length_le (by rw [unhide hTl]; omega)]
        rfl
      go_wp2_with fail
      go_ret2
      exact ⟨q, true, rfl, hq, unhide E, hbel⟩
    have hatp : Hid (at' (bytesOf s) p = ((s[p].toNat : Nat) : Int)) := bytesOf_at s p hlt
    cases hbl : blank ((s[p].toNat : Nat) : Int)
    · go_wp2_with fail
      refine (zzBlank_any _ _).mono ?_
      rintro e wx ⟨rfl, rfl⟩
      rw [hbl]
      go_wp2_with fail
      go_loop [8] (fun i => ∃ k : Nat, p ≤ k ∧ k ≤ s.size ∧ i = .int .i64 k ∧ Hid (∀ m, p ≤ m → m < k → blank (at' (bytesOf s) m) = false)) (fun i => s.size - (intOf i).toNat)
      case atStart => exact ⟨p, Nat.le_refl _, hp, rfl, fun m h1 h2 => absurd h2 (by omega)⟩
      case round =>
        obtain ⟨k, hpk, hk, rfl, hnb⟩ := hrel
        by_cases hks : k < s.size ∧ blank (at' (bytesOf s) k) = false
        · obtain ⟨hks, hbk⟩ := hks
          have hbk2 : blank ((s[k].toNat : Nat) : Int) = false := by rw [← bytesOf_at s k hks]; exact hbk
          have hn : Hid (∀ m, p ≤ m → m < k + 1 → blank (at' (bytesOf s) m) = false) := by
            intro m h1 h2
            rcases Nat.lt_or_ge m k with h | h
            · exact unhide hnb m h1 h
            · obtain rfl : m = k := by omega
              exact hbk
          clear hbk
          go_wp2_with fail
          refine (zzBlank_any _ _).mono ?_
          rintro e wx ⟨rfl, rfl⟩
          rw [hbk2]
          go_wp2_with fail
          go_round
          case rel => exact ⟨k + 1, by omega, by omega, by go_num, hn⟩
          case measure => simp [intOf]; omega
        · have hpk2 : p < k := by
            rcases Nat.lt_or_ge p k with h | h
            · exact h
            · exfalso
              obtain rfl : p = k := by omega
              exact hks ⟨hlt, by rw [unhide hatp]; exact hbl⟩
          have hout : k = s.size ∨ ∃ h : k < s.size, blank ((s[k].toNat : Nat) : Int) = true := by
            rcases Nat.lt_or_ge k s.size with h | h
            · right
              refine ⟨h, ?_⟩
              rw [← bytesOf_at s k h]
              cases hb : blank (at' (bytesOf s) k)
              · exact absurd ⟨h, hb⟩ hks
              · rfl
            · left; omega
          clear hks
          go_upto_region 10 with fail
          go_cut [54] (fun t wx => t = .bool false ∧ wr = wx)
          case first =>
            rcases hout with rfl | ⟨hks, hbk⟩
            · go_wp2_with fail
              go_meet
              case rel => exact ⟨rfl, rfl⟩
            · go_wp2_with fail
              refine (zzBlank_any _ _).mono ?_
              rintro e wx ⟨rfl, rfl⟩
              rw [hbk]
              go_wp2_with fail
              go_meet
              case rel => exact ⟨rfl, rfl⟩
          case rest =>
          obtain ⟨rfl, rfl⟩ := hcut
          clear hout
          go_wp2_with fail
          go_loopw [9] (fun j wx => ∃ n : Nat, n ≤ k - p ∧ q + n ≤ len ∧ j = .int .i64 n ∧ Hid (rt ((bytesOf s).drop (p + n)) (xs.drop (q + n)) = rt (bytesOf s) xs) ∧ Below w.heap.size w wx) (fun j _ => len - (intOf j).toNat)
          case atStart => exact ⟨0, by omega, by omega, rfl, hrt, hbel⟩
          case round =>
            clear hbel
            obtain ⟨n, hn, hqn, rfl, hrn, hbel⟩ := hrel
            by_cases hne : n < k - p
            · have hg1 : (n : Int) < (k : Int) - p := by omega
              have hTp : p + n < (bytesOf s).length := by rw [unhide hTl]; omega
              have hnbn := hide (unhide hnb (p + n) (by omega) (by omega))
              by_cases hql : q + n < len
              · have hg2 : (q : Int) + n < (len : Int) := by omega
                obtain ⟨b, o, rfl, hb, hc⟩ := (unhide h).2.2.2 (q + n) hql
                have hcz := (hbel.cell (p := ⟨b, o + (q + n), none⟩) hb).trans hc
                have hix := index_sum s p n (by omega)
                have hstep := hide (rt_step hTp (show q + n < xs.length by rw [unhide hxl]; exact hql) (unhide hnbn))
                have hstop := hide (rt_stop (xs := xs) (q := q + n) hTp (unhide hnbn))
                have g0 : (0 : Int) ≤ (q : Int) + n := by omega
                have g1 : (0 : Int) ≤ (p : Int) + n := by omega
                have g2 : (p : Int) + n < (s.size : Int) := by omega
                clear hc
                generalize at' (bytesOf s) (p + n) = c at *
                cases heq : (at' xs (q + n) == c)
                · have E : Hid (rt (bytesOf s) xs = (xs.drop (q + n), false)) := by
                    show _ = _
                    rw [← unhide hrn, unhide hstop (fun _ => heq)]
                  go_wp2_with fail
                  go_quiet (fail)
                  go_wp2_with fail
                  go_ret2
                  exact ⟨q + n, false, by simp, by omega, unhide E, below_drewN hbel _⟩
                · have E : Hid (rt ((bytesOf s).drop (p + (n + 1))) (xs.drop (q + (n + 1))) = rt (bytesOf s) xs) := by
                    show _ = _
                    rw [← unhide hrn, unhide hstep (by simpa using heq)]
                    rfl
                  go_wp2_with fail
                  go_quiet (fail)
                  go_wp2_with fail
                  go_roundw
                  case rel => exact ⟨n + 1, by omega, by omega, by go_num, E, below_drewN hbel _⟩
                  case measure => simp [intOf]; omega
              · have hstop := rt_stop (xs := xs) (q := q + n) hTp (unhide hnbn) (fun h => by rw [unhide hxl] at h; exact absurd h hql)
                have E : Hid (rt (bytesOf s) xs = (xs.drop (q + n), false)) := by
                  show _ = _
                  rw [← unhide hrn, hstop]
                clear hstop
                have hd : decide ((q : Int) + n < (len : Int)) = false := by simp; omega
                have hnl : ¬ (q : Int) + n < (len : Int) := by omega
                go_wp2_with fail
                go_quiet (fail)
                go_wp2_with fail
                go_ret2
                exact ⟨q + n, false, by simp, by omega, unhide E, below_drewN hbel _⟩
            · obtain rfl : n = k - p := by omega
              have hd : decide (((k - p : Nat) : Int) < (k : Int) - p) = false := by simp; omega
              have hnl : ¬ ((k - p : Nat) : Int) < (k : Int) - p := by omega
              have hpn : p + (k - p) = k := by omega
              rw [hpn] at hrn
              go_wp2_with fail
              go_quiet (fail)
              go_wp2_with fail
              go_roundw
              case rel => exact ⟨k, q + (k - p), hk, hqn, rfl, by go_num, hrn, below_drewN hbel _⟩
              case measure => simp [intOf]; omega
    · have hrt0 : Hid (rt ((bytesOf s).drop p) ((xs.drop q).dropWhile blank) = rt (bytesOf s) xs) := by
        show _ = _
        rw [← unhide hrt, rt_same (by rw [unhide hTl]; exact hlt) (by rw [unhide hatp]; exact hbl)]
      go_wp2_with fail
      refine (zzBlank_any _ _).mono ?_
      rintro e wx ⟨rfl, rfl⟩
      rw [hbl]
      go_wp2_with fail
      go_loop [6] (fun i => ∃ k : Nat, p ≤ k ∧ k ≤ s.size ∧ i = .int .i64 k ∧ Hid (rt ((bytesOf s).drop k) ((xs.drop q).dropWhile blank) = rt (bytesOf s) xs)) (fun i => s.size - (intOf i).toNat)
      case atStart => exact ⟨p, Nat.le_refl _, hp, rfl, hrt0⟩
      case round =>
        obtain ⟨k, hpk, hk, rfl, hrtk⟩ := hrel
        by_cases hks : k < s.size ∧ blank (at' (bytesOf s) k) = true
        · obtain ⟨hks, hbk⟩ := hks
          have hbk2 : blank ((s[k].toNat : Nat) : Int) = true := by rw [← bytesOf_at s k hks]; exact hbk
          have hn : Hid (rt ((bytesOf s).drop (k + 1)) ((xs.drop q).dropWhile blank) = rt (bytesOf s) xs) := by
            show _ = _
            rw [← unhide hrtk, rt_skip (by rw [unhide hTl]; exact hks) hbk, dropWhile_twice]
          clear hbk
          go_wp2_with fail
          refine (zzBlank_any _ _).mono ?_
          rintro e wx ⟨rfl, rfl⟩
          rw [hbk2]
          go_wp2_with fail
          go_round
          case rel => exact ⟨k + 1, by omega, by omega, by go_num, hn⟩
          case measure => simp [intOf]; omega
        · have hpk2 : p < k := by
            rcases Nat.lt_or_ge p k with h | h
            · exact h
            · exfalso
              obtain rfl : p = k := by omega
              exact hks ⟨hlt, by rw [unhide hatp]; exact hbl⟩
          have hout : k = s.size ∨ ∃ h : k < s.size, blank ((s[k].toNat : Nat) : Int) = false := by
            rcases Nat.lt_or_ge k s.size with h | h
            · right
              refine ⟨h, ?_⟩
              rw [← bytesOf_at s k h]
              cases hb : blank (at' (bytesOf s) k)
              · rfl
              · exact absurd ⟨h, hb⟩ hks
            · left; omega
          clear hks
          go_upto_region 5 with fail
          go_cut [27] (fun t wx => t = .bool false ∧ wr = wx)
          case first =>
            rcases hout with rfl | ⟨hks, hbk⟩
            · go_wp2_with fail
              go_meet
              case rel => exact ⟨rfl, rfl⟩
            · go_wp2_with fail
              refine (zzBlank_any _ _).mono ?_
              rintro e wx ⟨rfl, rfl⟩
              rw [hbk]
              go_wp2_with fail
              go_meet
              case rel => exact ⟨rfl, rfl⟩
          case rest =>
          obtain ⟨rfl, rfl⟩ := hcut
          clear hout
          go_wp2_with fail
          go_loop [7] (fun j => ∃ z : Nat, z ≤ len ∧ j = .int .i64 z ∧ Hid ((xs.drop z).dropWhile blank = (xs.drop q).dropWhile blank)) (fun j => len - (intOf j).toNat)
          case atStart => exact ⟨q, hq, rfl, rfl⟩
          case round =>
            obtain ⟨z, hz, rfl, hdz⟩ := hrel
            by_cases hzl : z < len
            · obtain ⟨b, o, rfl, hb, hc⟩ := (unhide h).2.2.2 z hzl
              have hcz := (hbel.cell (p := ⟨b, o + z, none⟩) hb).trans hc
              have hdk : Hid (xs.drop z = at' xs z :: xs.drop (z + 1)) := drop_cons_getD (by rw [unhide hxl]; exact hzl)
              clear hc
              cases hbz : blank (at' xs z)
              · have hfin : Hid (rt ((bytesOf s).drop k) (xs.drop z) = rt (bytesOf s) xs) := by
                  show _ = _
                  have := unhide hdz
                  rw [unhide hdk, List.dropWhile_cons, if_neg (by simp [hbz]), ← unhide hdk] at this
                  rw [this]
                  exact unhide hrtk
                go_wp2_with fail
                refine (zzBlank_any _ _).mono ?_
                rintro e wx ⟨rfl, rfl⟩
                rw [hbz]
                go_wp2_with fail
                go_roundw
                case rel => exact ⟨k, z, hk, hz, rfl, rfl, hfin, hbel⟩
                case measure => simp [intOf]; omega
              · have hnx : Hid ((xs.drop (z + 1)).dropWhile blank = (xs.drop q).dropWhile blank) := by
                  show _ = _
                  rw [← unhide hdz, unhide hdk, List.dropWhile_cons, if_pos hbz]
                go_wp2_with fail
                refine (zzBlank_any _ _).mono ?_
                rintro e wx ⟨rfl, rfl⟩
                rw [hbz]
                go_wp2_with fail
                go_round
                case rel => exact ⟨z + 1, by omega, by go_num, hnx⟩
                case measure => simp [intOf]; omega
            · have hfin : Hid (rt ((bytesOf s).drop k) (xs.drop z) = rt (bytesOf s) xs) := by
                show _ = _
                have := unhide hdz
                rw [List.drop_of_length_le (l := xs) (by rw [unhide hxl]; omega)] at this
                rw [List.drop_of_length_le (l := xs) (by rw [unhide hxl]; omega)]
                have h2 := unhide hrtk
                rw [← this] at h2
                exact h2
              go_wp2_with fail
              go_roundw
              case rel => exact ⟨k, z, hk, hz, rfl, rfl, hfin, hbel⟩
              case measure => simp [intOf]; omega

theorem bytes19_any (s : ByteArray) (a : Option Addr) (len cap : Nat) (w : World) (hs : s.size ≤ maxLen) (hm : len ≤ maxLen) :
    Calls Try.prog 19 #[.string s, .slice a len cap] w fun e w' => e = .returned (.bool (decide (s.size + len ≤ 1048576))) ∧ w = w' := by
  unfold maxLen at hs hm
  by_cases h : s.size + len ≤ 1048576
  · go_enter Try.func19, Try.ntmps19
    go_wp2_with fail
    go_ret
    exact ⟨by simp [h], rfl⟩
  · go_enter Try.func19, Try.ntmps19
    go_wp2_with fail
    all_goals (go_ret; exact ⟨by simp [h], rfl⟩)

set_option maxHeartbeats 1600000 in
set_option maxRecDepth 10000 in
theorem runModel (s : ByteArray) (a : Option Addr) (len cap : Nat) (xs : List Int) (w : World) (hsum : s.size + len ≤ 1048576) (h : Holds w a len xs) :
    Calls Try.prog 7 #[.string s, .slice a len cap] w fun e w' => e = .returned (.bool true) ∧ Below w.heap.size w w' := by
  have hxl := h.1
  have hd : decide (s.size + len ≤ 1048576) = true := by simp [hsum]
  go_enter Try.func7, Try.ntmps7
  go_wp2_with fail
  refine (bytes19_any s a len cap w (by unfold maxLen; omega) (by unfold maxLen; omega)).mono ?_
  rintro e w0 ⟨rfl, rfl⟩
  rw [hd]
  clear hd
  go_wp2_with fail
  refine (clone_any a len cap xs w (by omega) h).mono ?_
  rintro e w1 ⟨v1, rfl, hown1, hbel1⟩
  obtain ⟨a1, c1, rfl, hold1⟩ := holds_of_owns hown1 h.2.1
  have hc1 := owns_cap hown1
  clear hown1 h
  go_wp2_with fail
  refine (zzReadText_len s a1 len c1 xs w1 hxl (by omega) (by omega) hc1 hold1).mono ?_
  rintro e wx ⟨a2, cap2, rfl, hc2, hh2, rfl⟩
  generalize hR : rt (bytesOf s) xs = RR at *
  obtain ⟨R, ok⟩ := RR
  replace hR := hide hR
  replace hxl := hide hxl
  dsimp only at hc2 hh2 ⊢
  go_wp2_with fail
  refine (readModel_any s a1 len c1 xs w1 (by omega) (by omega) hold1).mono ?_
  rintro e w2 ⟨j, ok', rfl, hj, hrt, hbel2⟩
  rw [unhide hR] at hrt
  simp only [Prod.mk.injEq] at hrt
  obtain ⟨rfl, rfl⟩ := hrt
  rw [List.length_drop, unhide hxl] at hc2 hh2 ⊢
  have hh3 := hide (hh2.later hbel2 (Nat.le_refl _))
  have hold3 := hide (hold1.later hbel2 (Nat.le_refl _))
  have hbel3 := hide (hbel1.trans (hbel2.mono hbel1.size))
  clear hh2 hold1 hbel1 hbel2 hR
  have hsub : ((len - j : Nat) : Int) = (len : Int) - j := by omega
  have hne : (((len - j : Nat) : Int) != (len : Int) - j) = false := by simp; omega
  go_wp2_with fail
  clear hne
  go_loopw [9] (fun i wx => ∃ k : Nat, k ≤ len - j ∧ i = .int .i64 k ∧ Below w2.heap.size w2 wx) (fun i _ => len - j - (intOf i).toNat)
  case atStart => exact ⟨0, by omega, rfl, Below.refl _ _⟩
  case round =>
    obtain ⟨k, hk, rfl, hbel⟩ := hrel
    by_cases hlt : k < len - j
    · obtain ⟨b2, o2, rfl, hb2, hcr⟩ := (unhide hh3).2.2.2 k hlt
      obtain ⟨b1, o1, rfl, hb1, hct⟩ := (unhide hold3).2.2.2 (j + k) (by omega)
      have hc1 := (hbel.cell (p := ⟨b2, o2 + k, none⟩) hb2).trans hcr
      have hc2' := (hbel.cell (p := ⟨b1, o1 + (j + k), none⟩) hb1).trans hct
      rw [at_drop] at hc1
      generalize at' xs (j + k) = c at *
      have g1 : (k : Int) < ((len - j : Nat) : Int) := by omega
      have g2 : (0 : Int) ≤ (k : Int) := by omega
      have g3 : (j : Int) + k < (len : Int) := by omega
      have g4 : (0 : Int) ≤ (j : Int) + k := by omega
      clear hcr hct
      go_wp2_with fail
      go_quiet (fail)
      go_wp2_with fail
      go_roundw
      case rel => exact ⟨k + 1, by omega, by go_num, below_drewN hbel _⟩
      case measure => simp [intOf]; omega
    · go_wp2_with fail
      go_ret
      exact ⟨rfl, (unhide hbel3).trans (hbel.mono (unhide hbel3).size)⟩

end Go.Proofs.Qxb6601794a
