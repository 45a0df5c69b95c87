import Derived.Test.Qxb6602625aLaws
import Derived.Test.Qxb6602625aPlain
import Derived.Deep.LoopGhost
namespace Go.Proofs.Qxb6602625a
open Go.RowKit
set_option linter.unusedVariables false

set_option maxHeartbeats 1000000 in
theorem appendInteger_any (ao : Option Addr) (len : Nat) (xs : List Int) (v : Int) (w : World) (hr : Rd w ao xs) (hlen : xs.length = len) (hb : len ≤ 1048576) (h1 : -9223372036854775808 ≤ v) (h2 : v ≤ 9223372036854775807) :
    Calls Try.prog 23 #[.slice ao len len, .int .i64 v] w fun e w' => ∃ v' k, e = .returned v' ∧ Plain.IsLen v k ∧ On w ao len xs w' v' (Plain.be k v) := by
  have H := And.intro hr hlen
  clear hr hlen
  go_enter Try.func23, Try.ntmps23
  go_wp2_with fail
  go_loop [5] (fun nv => ∃ k : Nat, 1 ≤ k ∧ k ≤ 8 ∧ nv = .int .i64 k ∧ Hid (∀ j, 1 ≤ j → j < k → ¬ Plain.fits j v)) (fun nv => 8 - (intOf nv).toNat)
  case atStart => exact ⟨1, by omega, by omega, rfl, fun j a b => by omega⟩
  case round =>
    obtain ⟨k, hk1, hk2, rfl, HF⟩ := hrel
    by_cases hgo : k < 8 ∧ ¬ Plain.fits k v
    · obtain ⟨hk, hf⟩ := hgo
      have hA : (v / 2 ^ (8 * k - 1) != 0) = true := bne_iff_ne.2 (fun h => hf (.inl h))
      have hB : (v / 2 ^ (8 * k - 1) != -1) = true := bne_iff_ne.2 (fun h => hf (.inr h))
      go_wp2_with fail
      go_round
      case rel => exact ⟨k + 1, by omega, by omega, by go_num, fun j a b => by by_cases e : j = k; exact e ▸ hf; exact HF.out j a (by omega)⟩
      case measure => simp [intOf]; omega
    · have HL : Hid (Plain.IsLen v k) := ⟨hk1, hk2, fun h => Classical.byContradiction fun hn => hgo ⟨h, hn⟩, HF.out⟩
      have hcase : (8 ≤ k) ∨ (k < 8 ∧ (v / 2 ^ (8 * k - 1) != 0) = false) ∨ (k < 8 ∧ (v / 2 ^ (8 * k - 1) != 0) = true ∧ (v / 2 ^ (8 * k - 1) != -1) = false) := by
        by_cases h8 : 8 ≤ k
        · exact .inl h8
        · rcases HL.out.fit (by omega) with h | h
          · exact .inr (.inl ⟨by omega, by simp [h]⟩)
          · exact .inr (.inr ⟨by omega, by simp [h], by simp [h]⟩)
      clear hgo HF
      rcases hcase with hc | ⟨hc, hd⟩ | ⟨hc, hd, he⟩
      all_goals
        go_wp2_with fail
        go_loopg [0, 6] k (fun g bv iv wr => ∃ ys, g ≤ k ∧ iv = .int .i64 ((g : Int) - 1) ∧ Hid (Plain.be k v = ys ++ Plain.be g v) ∧ ys.length + g = k ∧ On w ao len xs wr bv ys)
        case atStart => exact ⟨[], Nat.le_refl _, rfl, by show _ = _; simp, by simp, On.start _ _ _ _⟩
        case round =>
          obtain ⟨ys, hgk, rfl, HY, hyl, hon⟩ := hrel
          by_cases hg : 1 ≤ gk
          · go_wp2_with (at_builtin; refine app_on rfl (.tmp 33) (.tmp 39) rfl rfl (hon.alloc _) H.1 H.2 rfl (rd_one _ _ _) (by omega) ?_; intro v' w' hon')
            go_roundg (gk - 1)
            case measure => omega
            case rel => exact ⟨ys ++ [v / 2 ^ (8 * (gk - 1)) % 256], by omega, by rw [show ((gk - 1 : Nat) : Int) = (gk : Int) - 1 by omega], Plain.be_round v k gk ys hg HY.out, by simp; omega, hon'⟩
          · go_wp2_with fail
            go_ret
            obtain rfl : gk = 0 := by omega
            have hY : Plain.be k v = ys := by have := HY.out; simpa [Plain.be] using this
            exact ⟨_, k, rfl, HL.out, by rw [hY]; exact hon⟩

set_option maxHeartbeats 400000 in
/-- The exported alias. -/
theorem zzAppendInteger (ao : Option Addr) (len : Nat) (xs : List Int) (v : Int) (w : World) (hr : Rd w ao xs) (hlen : xs.length = len) (hb : len ≤ 1048576) (h1 : -9223372036854775808 ≤ v) (h2 : v ≤ 9223372036854775807) :
    Calls Try.prog 16 #[.slice ao len len, .int .i64 v] w fun e w' => ∃ v' k, e = .returned v' ∧ Plain.IsLen v k ∧ On w ao len xs w' v' (Plain.be k v) := by
  have H := appendInteger_any ao len xs v w hr hlen hb h1 h2
  clear hr hlen hb
  go_enter Try.func16, Try.ntmps16
  go_wp2_with (go_at_call 23; refine H.mono ?_; rintro e w' ⟨v', k, rfl, hown⟩)
  go_ret
  exact ⟨_, k, rfl, hown⟩

end Go.Proofs.Qxb6602625a
