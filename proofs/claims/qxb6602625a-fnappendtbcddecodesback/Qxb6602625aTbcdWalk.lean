import Derived.Test.Qxb6602625aTbcd
import Derived.Test.Qxb6602625aBytes
import Derived.Test.Qxb6602625aClone
import Derived.OpenShut
namespace Go.Proofs.Qxb6602625a
open Go.RowKit Go.PlainAid
set_option linter.unusedVariables false

set_option maxHeartbeats 400000 in
theorem zzBytes19_yes (ao : Option Addr) (len cap : Nat) (s : ByteArray) (w : World) (h : len + s.size ≤ 1048576) :
    Calls Try.prog 19 #[.slice ao len cap, .string s] w fun e w' => e = .returned (.bool true) ∧ w' = w := by
  go_enter Try.func19, Try.ntmps19
  go_wp2
  go_ret
  exact ⟨rfl, rfl⟩

set_option maxHeartbeats 400000 in
theorem zzBytes19_no (ao : Option Addr) (len cap : Nat) (s : ByteArray) (w : World) (hl : len ≤ 9223372036854775807) (hs : s.size ≤ 9223372036854775807) (h : ¬ len + s.size ≤ 1048576) :
    Calls Try.prog 19 #[.slice ao len cap, .string s] w fun e w' => e = .returned (.bool false) ∧ w' = w := by
  by_cases h1 : len ≤ 1048576
  · by_cases h2 : s.size ≤ 1048576
    · go_enter Try.func19, Try.ntmps19
      go_wp2
      go_ret
      exact ⟨rfl, rfl⟩
    · go_enter Try.func19, Try.ntmps19
      go_wp2
      go_ret
      exact ⟨rfl, rfl⟩
  · go_enter Try.func19, Try.ntmps19
    go_wp2
    go_ret
    exact ⟨rfl, rfl⟩

set_option maxHeartbeats 400000 in
theorem tbcd_no (ao : Option Addr) (len cap : Nat) (s : ByteArray) (w : World) (hl : len ≤ 9223372036854775807) (hs : s.size ≤ 9223372036854775807) (h : ¬ len + s.size ≤ 1048576) :
    Calls Try.prog 9 #[.slice ao len cap, .string s] w fun e w' => e = .returned (.bool true) ∧ Below w.heap.size w w' := by
  have HZ : Hid _ := zzBytes19_no ao len cap s w hl hs h
  go_enter Try.func9, Try.ntmps9
  go_wp2_with fail
  refine Calls.mono HZ.out ?_
  rintro e _ ⟨rfl, rfl⟩
  go_wp2
  go_ret
  exact ⟨rfl, Below.refl _ _⟩

set_option maxHeartbeats 2000000 in
theorem tbcd_yes (ao : Option Addr) (len cap : Nat) (xs : List Int) (s : ByteArray) (w : World) (hr : Rd w ao xs) (hlen : xs.length = len) (hnil : ao = none → cap = 0) (h : len + s.size ≤ 1048576) (hpos : 0 < s.size) :
    Calls Try.prog 9 #[.slice ao len cap, .string s] w fun e w' => e = .returned (.bool true) ∧ Below w.heap.size w w' := by
  have HZ : Hid _ := And.intro (zzBytes19_yes ao len cap s w h) (And.intro (cloneBytes_any ao len cap xs w hr hlen (by omega) hnil) hlen)
  clear hr hlen hnil
  have hg := get_bt s
  obtain ⟨m, hm⟩ : ∃ m, m = (s.size + 1) / 2 := ⟨_, rfl⟩
  have hm1 : s.size ≤ 2 * m := by omega
  have hm2 : 2 * m ≤ s.size + 1 := by omega
  have HM : Hid _ := hm
  clear hm
  go_enter Try.func9, Try.ntmps9
  go_wp2_with fail
  refine Calls.mono HZ.out.1 ?_
  rintro e _ ⟨rfl, rfl⟩
  go_wp2_with fail
  go_loop [5] (fun iv => ∃ k : Nat, k ≤ s.size ∧ iv = .int .i64 k ∧ Hid (∀ j, j < k → 48 ≤ bt s j ∧ bt s j ≤ 57)) (fun iv => s.size - (intOf iv).toNat)
  case atStart => exact ⟨0, Nat.zero_le _, rfl, fun j hj => by omega⟩
  case round =>
    obtain ⟨k, hk, rfl, HD⟩ := hrel
    by_cases hlt : k < s.size
    · have hb1 := bt_nonneg s k
      have hb2 := bt_le s k
      by_cases h1 : bt s k < 48
      · go_wp2_with fail
        go_ret
        exact ⟨rfl, Below.refl _ _⟩
      · by_cases h2 : 57 < bt s k
        · go_wp2_with fail
          go_ret
          exact ⟨rfl, Below.refl _ _⟩
        · go_wp2_with fail
          go_round
          case rel => exact ⟨k + 1, by omega, by go_num, fun j hj => by by_cases e : j = k; exact e ▸ ⟨by omega, by omega⟩; exact HD.out j (by omega)⟩
          case measure => simp [intOf]; omega
    · obtain rfl : k = s.size := by omega
      go_wp2_with fail
      refine Calls.mono HZ.out.2.1 ?_
      rintro e w1 ⟨ao1, rfl, hrd1, hbel1⟩
      go_wp2_with fail
      refine (zzAppendTBCD ao1 len xs s w1 hrd1 HZ.out.2.2 (by omega) (by omega) HD.out).mono ?_
      rintro e w2 ⟨v2, rfl, hon⟩
      rw [← HM.out] at hon
      have hbel2 := hon.bel
      obtain ⟨ao2, c2, rfl, hrd2, hcap2⟩ := hon.read hrd1 HZ.out.2.2
      rw [Plain.tb_len] at hcap2 ⊢
      have hrd3 := hrd1.below hbel2
      have HL : Hid _ := hrd2
      clear hon hrd1 hrd2
      go_wp2_with fail
      refine (hasBytePrefix_true _ _ _ _ _ _ _ _ _ HL.out hrd3 HZ.out.2.2 (by rw [Plain.tb_len]) (by omega)).mono ?_
      rintro e _ ⟨rfl, q, rfl⟩
      clear hrd3
      obtain ⟨b2, o2, rfl, hc2⟩ := HL.out.at (by simp [Plain.tb_len]; omega)
      have HC : Hid (∀ k, k < m → w2.cell? ⟨b2, o2 + len + k, none⟩ = some (.int .u8 (Plain.oct (bt s) s.size k))) := by
        intro k hk
        have hlen := HZ.out.2.2
        have := hc2 (len + k) (by simp [Plain.tb_len]; omega)
        rw [Nat.add_assoc, this, ← Plain.tb_getD _ _ m k hk]
        congr 2
        simp [List.getElem?_append_right (show xs.length ≤ len + k by omega), show len + k - xs.length = k by omega]
      clear hc2 HL
      have hne : ((m : Int) != ((s.size : Int) + 1) / 2) = false := by simp; omega
      obtain ⟨i0, hi, hz0, hz1, hz2⟩ := info_parts Try.info5
      go_wp2_with (at_make; refine wpList_make_own _ rfl _ _ 22 rfl w2.heap.size 5 i0 (.int .u8 0) 1 Try.underlying22 hi hz0 hz1 _ _ _ (2 * m) rfl rfl (by omega) (by rw [hz2]; omega) (by unfold maxLen; omega) (Nat.le_refl _) ?_; intro w3 hown3 hgr3; replace hown3 := And.intro hown3 (bel_none (Below.refl w2.heap.size (w2.drewN q)) (Nat.le_refl _) hgr3); clear hgr3)
      clear hi hz0 hz1 hz2
      go_loopg [8, 9] m (fun g dv iv wr => ∃ (k n : Nat), k + g = m ∧ iv = .int .i64 k ∧ Hid ((n = 2 * k ∧ 2 * k ≤ s.size) ∨ (n = s.size ∧ k = m)) ∧ n ≤ s.size ∧ wr.ownsRow w2.heap.size 5 1 dv n (B8 (Plain.chars (bt s) n)) ∧ Below w2.heap.size (w2.drewN q) wr)
      case atStart => exact ⟨0, 0, by omega, rfl, .inl ⟨rfl, by omega⟩, by omega, hown3.1, hown3.2⟩
      case round =>
        obtain ⟨k, n, hk, rfl, HN, hn, hown, hbel⟩ := hrel
        have hsz : w2.heap.size ≤ wr.heap.size := hbel.size
        by_cases hlt : k < m
        · have hn2 : n = 2 * k ∧ 2 * k ≤ s.size := by rcases HN.out with h | h; exact h; exact absurd h.2 (by omega)
          obtain ⟨rfl, hn3⟩ := hn2
          clear HN
          have hx : wr.cell? ⟨b2, o2 + len + k, none⟩ = some (.int .u8 (Plain.oct (bt s) s.size k)) := by
            have := HC.out k hlt
            rw [hbel.cell (World.block_lt_of_cell? _ _ this)]; exact this
          have hd1 := HD.out (2 * k) (by omega)
          by_cases h2 : 2 * k + 1 < s.size
          · have hd2 := HD.out (2 * k + 1) h2
            have hp := Plain.oct_two_parts (bt s) s.size k h2 hd1 hd2
            have hp3 := Plain.chars_two (bt s) k
            generalize Plain.oct (bt s) s.size k = x at hx hp
            generalize bt s (2 * k) = p at hd1 hp hp3
            generalize bt s (2 * k + 1) = p2 at hd2 hp hp3
            obtain ⟨hp1, hp2, hq1, hq2⟩ := hp
            have HP : Hid _ := hp3
            clear hp3
            have hand := u8_and15 x hp1 (by omega)
            rw [hq1] at hand
            go_wp2_with (first
              | (at_builtin; refine app_own rfl (.tmp 91) (.tmp 94) rfl rfl (hown.alloc _) rfl rfl (fun h => by cases h) (rd_one _ _ _) (by omega) (by simp; omega) ?_; intro v4 w4 hown4 hgr4; replace hown4 := And.intro hown4 (bel_own (hbel.alloc hsz _) (by simp; omega) (hown.alloc _) hgr4); clear hgr4; have hsz4 : w2.heap.size ≤ w4.heap.size := hown4.2.size)
              | (at_builtin; refine app_own rfl (.tmp 105) (.tmp 108) rfl rfl (hown4.1.alloc _) rfl rfl (fun h => by cases h) (rd_one _ _ _) (by omega) (by simp; omega) ?_; intro v5 w5 hown5 hgr5; replace hown5 := And.intro hown5 (bel_own (hown4.2.alloc hsz4 _) (by simp; omega) (hown4.1.alloc _) hgr5); clear hgr5))
            have e1 : 48 + (p - 48) = p := by omega
            have e2 : 48 + (p2 - 48) = p2 := by omega
            rw [e1, e2, ← HP.out] at hown5
            go_roundg (gk - 1)
            case measure => omega
            case rel => exact ⟨k + 1, 2 * (k + 1), by omega, by go_num, .inl ⟨rfl, by omega⟩, by omega, hown5.1, hown5.2⟩
          · have hp := Plain.oct_one_parts (bt s) s.size k h2 hd1
            have hp3 := Plain.chars_succ (bt s) (2 * k)
            generalize Plain.oct (bt s) s.size k = x at hx hp
            generalize bt s (2 * k) = p at hd1 hp hp3
            obtain ⟨hp1, hp2, hq1, hq2⟩ := hp
            have HP : Hid _ := hp3
            clear hp3
            have hand := u8_and15 x hp1 (by omega)
            rw [hq1] at hand
            have hlast : ((k : Int) != (m : Int) - 1) = false := by simp; omega
            go_wp2_with (first
              | (at_builtin; refine app_own rfl (.tmp 91) (.tmp 94) rfl rfl (hown.alloc _) rfl rfl (fun h => by cases h) (rd_one _ _ _) (by omega) (by simp; omega) ?_; intro v4 w4 hown4 hgr4; replace hown4 := And.intro hown4 (bel_own (hbel.alloc hsz _) (by simp; omega) (hown.alloc _) hgr4); clear hgr4; have hsz4 : w2.heap.size ≤ w4.heap.size := hown4.2.size))
            have e1 : 48 + (p - 48) = p := by omega
            rw [e1, ← HP.out] at hown4
            go_roundg (gk - 1)
            case measure => omega
            case rel => exact ⟨k + 1, 2 * k + 1, by omega, by go_num, .inr ⟨by omega, by omega⟩, by omega, hown4.1, hown4.2⟩
        · have hn2 : n = s.size := by rcases HN.out with h | h; omega; exact h.1
          subst hn2
          obtain ⟨ao5, c5, rfl, hrd5, -, -, -⟩ := Rd.of_owns hown
          obtain ⟨b5, o5, rfl, hc5⟩ := hrd5.at (by rw [Plain.chars_len]; exact hpos)
          rw [Plain.chars_len] at hc5 ⊢
          have HE : Hid _ := hc5
          clear hc5 hown hrd5
          go_wp2_with fail
          go_loopg [12] s.size (fun g iv wx => ∃ j : Nat, iv = .int .i64 j ∧ j + g = s.size ∧ ∃ r, wx = wr.drewN r)
          case atStart => exact ⟨0, rfl, by omega, 0, rfl⟩
          case round =>
            obtain ⟨j, rfl, hj, r, rfl⟩ := hrel
            by_cases hjl : j < s.size
            · have hjl' : (j : Int) < (s.size : Int) := by omega
              have hy := HE.out j hjl
              rw [Plain.chars_getD _ _ _ hjl] at hy
              go_wp2_with fail
              go_quiet (fail)
              go_wp2
              go_roundg (gk - 1)
              case measure => omega
              case rel => exact ⟨j + 1, by go_num, by omega, r + nq, rfl⟩
            · go_wp2
              go_ret
              refine ⟨rfl, below_drewN ?_ r⟩
              exact (hbel1.trans (hbel2.mono hbel1.size)).trans ((below_drewN (Below.refl _ _) q).trans (hbel.mono (Nat.le_trans hbel1.size hbel2.size)))

set_option maxHeartbeats 2000000 in
theorem tbcd_zero (ao : Option Addr) (len cap : Nat) (xs : List Int) (s : ByteArray) (w : World) (hr : Rd w ao xs) (hlen : xs.length = len) (hnil : ao = none → cap = 0) (h : len ≤ 1048576) (hz : s.size = 0) :
    Calls Try.prog 9 #[.slice ao len cap, .string s] w fun e w' => e = .returned (.bool true) ∧ Below w.heap.size w w' := by
  have HZ : Hid _ := And.intro (zzBytes19_yes ao len cap s w (by omega)) (And.intro (cloneBytes_any ao len cap xs w hr hlen (by omega) hnil) hlen)
  clear hr hlen hnil
  go_enter Try.func9, Try.ntmps9
  go_wp2_with fail
  refine Calls.mono HZ.out.1 ?_
  rintro e _ ⟨rfl, rfl⟩
  go_wp2_with fail
  refine wp_loop_rounds 1 ?_
  rw [rounds_succ]
  go_wp2_with fail
  refine Calls.mono HZ.out.2.1 ?_
  rintro e w1 ⟨ao1, rfl, hrd1, hbel1⟩
  go_wp2_with fail
  refine (zzAppendTBCD ao1 len xs s w1 hrd1 HZ.out.2.2 (by omega) (by omega) (fun k hk => by omega)).mono ?_
  rintro e w2 ⟨v2, rfl, hon⟩
  rw [show (s.size + 1) / 2 = 0 by omega] at hon
  have hbel2 := hon.bel
  obtain ⟨ao2, c2, rfl, hrd2, hcap2⟩ := hon.read hrd1 HZ.out.2.2
  rw [Plain.tb_len, Nat.add_zero] at hcap2 ⊢
  have hrd3 := hrd1.below hbel2
  have HL : Hid _ := hrd2
  clear hon hrd1 hrd2
  go_wp2_with fail
  refine (hasBytePrefix_true _ _ _ _ _ _ _ _ _ HL.out hrd3 HZ.out.2.2 (by rw [Plain.tb_len, Nat.add_zero]) (by omega)).mono ?_
  rintro e _ ⟨rfl, q, rfl⟩
  clear hrd3 HL
  obtain ⟨i0, hi, hz0, hz1, hz2⟩ := info_parts Try.info5
  go_wp2_with (at_make; refine wpList_make_own _ rfl _ _ 22 rfl w2.heap.size 5 i0 (.int .u8 0) 1 Try.underlying22 hi hz0 hz1 _ _ _ 0 rfl rfl rfl (by rw [hz2]; omega) (by unfold maxLen; omega) (Nat.le_refl _) ?_; intro w3 hown3 hgr3; replace hown3 := bel_none (Below.refl w2.heap.size (w2.drewN q)) (Nat.le_refl _) hgr3; clear hgr3)
  all_goals
    refine wp_loop_rounds 1 ?_
    rw [rounds_succ]
    go_wp2_with fail
    refine wp_loop_rounds 1 ?_
    rw [rounds_succ]
    go_wp2
    go_ret
    refine ⟨rfl, ?_⟩
    exact (hbel1.trans (hbel2.mono hbel1.size)).trans ((below_drewN (Below.refl _ _) q).trans (hown3.mono (Nat.le_trans hbel1.size hbel2.size)))

/-- THE LAW's WALK, at every input. -/
theorem tbcd_walk (ao : Option Addr) (len cap : Nat) (xs : List Int) (s : ByteArray) (w : World) (hr : Rd w ao xs) (hlen : xs.length = len) (hnil : ao = none → cap = 0) (hl : len ≤ 9223372036854775807) (hs : s.size ≤ 9223372036854775807) :
    Calls Try.prog 9 #[.slice ao len cap, .string s] w fun e w' => e = .returned (.bool true) ∧ Below w.heap.size w w' := by
  by_cases h : len + s.size ≤ 1048576
  · by_cases hz : s.size = 0
    · exact tbcd_zero ao len cap xs s w hr hlen hnil (by omega) hz
    · exact tbcd_yes ao len cap xs s w hr hlen hnil h (by omega)
  · exact tbcd_no ao len cap s w hl hs h

end Go.Proofs.Qxb6602625a
