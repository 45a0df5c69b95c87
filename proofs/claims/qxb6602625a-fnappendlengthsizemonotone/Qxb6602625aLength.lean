import Derived.Test.Qxb6602625aLaws
import Derived.Test.Qxb6602625aPlain
import Derived.Deep.LoopGhost
namespace Go.Proofs.Qxb6602625a
open Go.RowKit
set_option linter.unusedVariables false

set_option maxHeartbeats 400000 in
theorem appendLength_short (ao : Option Addr) (len : Nat) (xs : List Int) (n : Int) (w : World) (hr : Rd w ao xs) (hlen : xs.length = len) (hb : len ≤ 1048576) (h0 : 0 ≤ n) (h1 : n < 128) :
    Calls Try.prog 22 #[.slice ao len len, .int .i64 n] w fun e w' => ∃ v, e = .returned v ∧ w'.ownsRow w.heap.size 5 1 v (len + (Plain.encLen n).length) (B8 (xs ++ Plain.encLen n)) ∧ Below w.heap.size w w' := by
  rw [Plain.encLen_short n h1]
  have H := And.intro hr hlen
  clear hr hlen
  go_enter Try.func22, Try.ntmps22
  go_wp2_with (at_builtin; refine app_tight rfl (.tmp 8) (.tmp 11) rfl (H.1.alloc _) H.2 rfl rfl rfl (by decide) (cell_one _ _) (by omega) ?_; intro v' w' hown hgr; replace hown := And.intro (owns_mono hown (by simp : w.heap.size ≤ _)) (bel_none ((Below.refl w.heap.size w).alloc (Nat.le_refl _) _) (by simp) hgr); clear hgr)
  go_ret
  exact ⟨_, rfl, hown⟩

set_option maxHeartbeats 400000 in
theorem appendLength_long (ao : Option Addr) (len : Nat) (xs : List Int) (n : Int) (w : World) (hr : Rd w ao xs) (hlen : xs.length = len) (hb : len ≤ 1048576) (h1 : 128 ≤ n) (h2 : n ≤ 9223372036854775807) :
    Calls Try.prog 22 #[.slice ao len len, .int .i64 n] w fun e w' => ∃ v, e = .returned v ∧ w'.ownsRow w.heap.size 5 1 v (len + (Plain.encLen n).length) (B8 (xs ++ Plain.encLen n)) ∧ Below w.heap.size w w' := by
  rw [Plain.encLen_long n (by omega)]
  have H := And.intro hr hlen
  clear hr hlen
  go_enter Try.func22, Try.ntmps22
  go_wp2_with fail
  go_loopg [1, 5] 8 (fun k nv ov wr => ∃ (m : Int) (acc : List Int), nv = .int .i64 m ∧ 0 ≤ m ∧ m ≤ 9223372036854775807 ∧ Hid (m < 256 ^ k) ∧ acc.length + k = 8 ∧ Hid (Plain.octs 8 n = Plain.octs k m ++ acc) ∧ wr.ownsRow w.heap.size 5 1 ov acc.length (B8 acc) ∧ Below w.heap.size w wr)
  case atStart => exact ⟨n, [], rfl, by omega, h2, by show n < 256 ^ 8; omega, rfl, by show _ = _; simp, World.ownsRow_nil _ _ _ _, Below.refl _ _⟩
  case round =>
    obtain ⟨m, acc, rfl, hm0, hm1, HM, hk, HO, hown, hbel⟩ := hrel
    obtain ⟨ao2, c2, rfl, hrd, -, hc0, -⟩ := Rd.of_owns hown
    have HH := And.intro hrd hc0
    clear hrd hc0 hown
    have hsz := hbel.size
    by_cases hpos : 0 < m
    · go_wp2_with (at_builtin; refine app_own rfl (.tmp 19) (.tmp 20) rfl rfl (owns_one wr _ w.heap.size hsz) rfl rfl HH.2 (HH.1.alloc _) (by omega) (by simp; omega) ?_; intro v' w' hown hgr; replace hown := And.intro hown (bel_own (hbel.alloc hsz _) (by simp; omega) (owns_one wr _ w.heap.size hsz) hgr); clear hgr)
      obtain ⟨j, hj, hA, hB⟩ := Plain.octs_round n m gk acc hpos HM.out HO.out
      go_roundg j
      case measure => omega
      case rel => exact ⟨m / 256, [m % 256] ++ acc, rfl, by omega, by omega, hA, by simp; omega, hB, by have h := hown.1; rw [Nat.add_comm] at h; simpa using h, hown.2⟩
    · go_wp2_with (first | (at_builtin; refine app_tight rfl (.tmp 22) (.tmp 27) rfl ((H.1.below hbel).alloc _) H.2 rfl rfl rfl (by decide) (cell_one _ _) (by omega) ?_; intro v1 w1 hown1 hgr1; replace hown1 := And.intro (owns_mono hown1 (by simp; omega : w.heap.size ≤ _)) (bel_none (hbel.alloc hsz _) (by simp; omega) hgr1); have hrd1 : Rd w1 ao2 acc := (HH.1.alloc _).below (bel_none (Below.refl _ _) (Nat.le_refl _) hgr1); clear hgr1) | (at_builtin; refine app_own rfl (.tmp 28) (.tmp 29) rfl rfl hown1.1 rfl rfl HH.2 hrd1 (by omega) (by have := hown1.2.size; omega) ?_; intro v2 w2 hown2 hgr2; replace hown2 := And.intro hown2 (bel_own hown1.2 hown1.2.size hown1.1 hgr2); clear hgr2))
      go_ret
      have hA := Plain.octs_done n m gk acc (by omega) HO.out
      refine ⟨_, rfl, ?_, hown2.2⟩
      rw [hA]
      have h := hown2.1
      rw [show len + 1 + acc.length = len + (acc.length + 1) by omega] at h
      simpa using h

/-- THE CONTRACT OF appendLength, at a slice without spare room. -/
theorem appendLength_any (ao : Option Addr) (len : Nat) (xs : List Int) (n : Int) (w : World) (hr : Rd w ao xs) (hlen : xs.length = len) (hb : len ≤ 1048576) (h1 : 0 ≤ n) (h2 : n ≤ 9223372036854775807) :
    Calls Try.prog 22 #[.slice ao len len, .int .i64 n] w fun e w' => ∃ v, e = .returned v ∧ w'.ownsRow w.heap.size 5 1 v (len + (Plain.encLen n).length) (B8 (xs ++ Plain.encLen n)) ∧ Below w.heap.size w w' := by
  by_cases h : n < 128
  · exact appendLength_short ao len xs n w hr hlen hb h1 h
  · exact appendLength_long ao len xs n w hr hlen hb (by omega) h2

set_option maxHeartbeats 400000 in
/-- The exported alias. -/
theorem zzAppendLength (ao : Option Addr) (len : Nat) (xs : List Int) (n : Int) (w : World) (hr : Rd w ao xs) (hlen : xs.length = len) (hb : len ≤ 1048576) (h1 : 0 ≤ n) (h2 : n ≤ 9223372036854775807) :
    Calls Try.prog 13 #[.slice ao len len, .int .i64 n] w fun e w' => ∃ v, e = .returned v ∧ w'.ownsRow w.heap.size 5 1 v (len + (Plain.encLen n).length) (B8 (xs ++ Plain.encLen n)) ∧ Below w.heap.size w w' := by
  have H := appendLength_any ao len xs n w hr hlen hb h1 h2
  clear hr hlen hb
  go_enter Try.func13, Try.ntmps13
  go_wp2_with (go_at_call 22; refine H.mono ?_; rintro e w' ⟨v, rfl, hown⟩)
  go_ret
  exact ⟨_, rfl, hown⟩

end Go.Proofs.Qxb6602625a
