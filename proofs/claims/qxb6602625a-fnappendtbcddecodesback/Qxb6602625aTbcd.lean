import Derived.Test.Qxb6602625aLaws
import Derived.Test.Qxb6602625aTbcdPlain
import Derived.PlainAid
import Derived.Deep.LoopGhost
import Derived.Deep.QuietTactic
import Derived.BigQuiet
namespace Go.Proofs.Qxb6602625a
open Go.RowKit Go.PlainAid
set_option linter.unusedVariables false

theorem or240_fin : ∀ n : Fin 16, bits BinOp.or IntKind.u8 240 ((n.val : Nat) : Int) = 240 + ((n.val : Nat) : Int) := by decide +kernel
theorem or240 (y : Int) (h0 : 0 ≤ y) (h1 : y ≤ 9) : bits BinOp.or IntKind.u8 240 y = 240 + y := by
  obtain ⟨n, rfl⟩ := Int.eq_ofNat_of_zero_le h0
  exact or240_fin ⟨n, by omega⟩
theorem or16_fin : ∀ m n : Fin 16, bits BinOp.or IntKind.u8 (((m.val : Nat) : Int) * 16) ((n.val : Nat) : Int) = ((m.val : Nat) : Int) * 16 + ((n.val : Nat) : Int) := by decide +kernel
theorem or16 (x y : Int) (h0 : 0 ≤ x) (h1 : x ≤ 9) (h2 : 0 ≤ y) (h3 : y ≤ 9) : bits BinOp.or IntKind.u8 (x * 16) y = x * 16 + y := by
  obtain ⟨m, rfl⟩ := Int.eq_ofNat_of_zero_le h0
  obtain ⟨n, rfl⟩ := Int.eq_ofNat_of_zero_le h2
  exact or16_fin ⟨m, by omega⟩ ⟨n, by omega⟩

set_option maxHeartbeats 1000000 in
theorem appendTBCD_any (ao : Option Addr) (len : Nat) (xs : List Int) (s : ByteArray) (w : World) (hr : Rd w ao xs) (hlen : xs.length = len) (hb : len ≤ 1048576) (hs : s.size ≤ 1048576)
    (hd : ∀ k, k < s.size → 48 ≤ bt s k ∧ bt s k ≤ 57) :
    Calls Try.prog 24 #[.slice ao len len, .string s] w fun e w' => ∃ v', e = .returned v' ∧ On w ao len xs w' v' (Plain.tb (bt s) s.size ((s.size + 1) / 2)) := by
  have H : Hid _ := And.intro hr (And.intro hlen hd)
  clear hr hlen hd
  have hg := get_bt s
  go_enter Try.func24, Try.ntmps24
  go_wp2_with fail
  go_loopg [0, 5] ((s.size + 1) / 2) (fun g bv iv wr => ∃ k, k + g = (s.size + 1) / 2 ∧ iv = .int .i64 (2 * (k : Int)) ∧ On w ao len xs wr bv (Plain.tb (bt s) s.size k))
  case atStart => exact ⟨0, by omega, rfl, On.start _ _ _ _⟩
  case round =>
    obtain ⟨k, hk, rfl, hon⟩ := hrel
    by_cases h1 : 2 * k < s.size
    · have ha := H.out.2.2 (2 * k) h1
      have hor := or240 (bt s (2 * k) - 48) (by omega) (by omega)
      by_cases h2 : 2 * k + 1 < s.size
      · have hb := H.out.2.2 (2 * k + 1) h2
        have hor2 := or16 (bt s (2 * k + 1) - 48) (bt s (2 * k) - 48) (by omega) (by omega) (by omega) (by omega)
        have hi1 : 2 * (k : Int) + 1 < (s.size : Int) := by omega
        have hi2 : 2 * (k : Int) < (s.size : Int) := by omega
        go_wp2_with fail
        go_quiet (fail)
        replace hon := hon.drewN nq
        go_wp2_with (at_builtin; refine app_on rfl (.tmp 34) (.tmp 36) rfl rfl (hon.alloc _) H.out.1 H.out.2.1 rfl (rd_one _ _ _) (by rw [Plain.tb_len]; omega) ?_; intro v' w' hon')
        go_roundg (gk - 1)
        case measure => omega
        case rel => exact ⟨k + 1, by omega, by go_num, by rw [Plain.tb_succ, Plain.oct_two _ _ _ h2]; exact hon'⟩
      · have hi1 : ¬ 2 * (k : Int) + 1 < (s.size : Int) := by omega
        go_wp2_with (at_builtin; refine app_on rfl (.tmp 34) (.tmp 36) rfl rfl (hon.alloc _) H.out.1 H.out.2.1 rfl (rd_one _ _ _) (by rw [Plain.tb_len]; omega) ?_; intro v' w' hon')
        go_roundg (gk - 1)
        case measure => omega
        case rel => exact ⟨k + 1, by omega, by go_num, by rw [Plain.tb_succ, Plain.oct_one _ _ _ h2]; exact hon'⟩
    · go_wp2_with fail
      go_ret
      obtain rfl : gk = 0 := by omega
      exact ⟨_, rfl, by rw [← hk]; exact hon⟩

set_option maxHeartbeats 400000 in
/-- The exported alias. -/
theorem zzAppendTBCD (ao : Option Addr) (len : Nat) (xs : List Int) (s : ByteArray) (w : World) (hr : Rd w ao xs) (hlen : xs.length = len) (hb : len ≤ 1048576) (hs : s.size ≤ 1048576)
    (hd : ∀ k, k < s.size → 48 ≤ bt s k ∧ bt s k ≤ 57) :
    Calls Try.prog 20 #[.slice ao len len, .string s] w fun e w' => ∃ v', e = .returned v' ∧ On w ao len xs w' v' (Plain.tb (bt s) s.size ((s.size + 1) / 2)) := by
  have H : Hid _ := appendTBCD_any ao len xs s w hr hlen hb hs hd
  clear hr hlen hb hd
  go_enter Try.func20, Try.ntmps20
  go_wp2_with (go_at_call 24; refine Calls.mono H.out ?_; rintro e w' ⟨v', rfl, hon⟩)
  go_ret
  exact ⟨_, rfl, hon⟩

end Go.Proofs.Qxb6602625a
