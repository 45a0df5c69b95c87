import Derived.Test.Qxb6602625aLaws
import Derived.Test.Qxb6602625aLenPlain
import Derived.Deep.LoopGhost
namespace Go.Proofs.Qxb6602625a
open Go.RowKit
set_option linter.unusedVariables false

theorem or_join_u64 (P y : Int) (h1 : 0 ≤ P) (h2 : P ≤ 36028797018963967) (h3 : 0 ≤ y) (h4 : y ≤ 255) : bits BinOp.or IntKind.u64 (P * 256) y = P * 256 + y := by
  obtain ⟨A, rfl⟩ := Int.eq_ofNat_of_zero_le h1
  obtain ⟨b, rfl⟩ := Int.eq_ofNat_of_zero_le h3
  rw [show (A : Int) * 256 = ((2 ^ 8 * A : Nat) : Int) by omega, u64_or_nat _ _ (by omega) (by omega), ← Nat.two_pow_add_eq_or_of_lt (by omega : b < 2 ^ 8) A]
  omega
theorem and127_fin : ∀ k : Fin 9, bits BinOp.and IntKind.u8 (128 + ((k.val : Nat) : Int)) 127 = ((k.val : Nat) : Int) := by decide +kernel
theorem and127 (k : Nat) (h : k ≤ 8) : bits BinOp.and IntKind.u8 (128 + (k : Int)) 127 = (k : Int) := and127_fin ⟨k, by omega⟩

set_option maxHeartbeats 400000 in
theorem decode_short (b o c : Nat) (n : Int) (w : World) (h1 : 0 ≤ n) (h2 : n < 128) (hx : w.cell? ⟨b, o, none⟩ = some (.int .u8 n)) :
    Calls Try.prog 15 #[.slice (some ⟨b, o, none⟩) 1 c] w fun e w' => e = .returned (.tuple #[.int .u64 n, .int .i64 1, .bool true]) ∧ w' = w := by
  go_enter Try.func15, Try.ntmps15
  go_wp2
  go_ret3
  exact ⟨rfl, rfl⟩

set_option maxHeartbeats 1000000 in
set_option maxRecDepth 100000 in
theorem decode_long (b o c k : Nat) (n : Int) (w : World) (h1 : 128 ≤ n) (h2 : n ≤ 9223372036854775807) (hk1 : 1 ≤ k) (hk8 : k ≤ 8) (hp0 : Plain.pre n k 0 = 0) (hh : 1 ≤ (Plain.be k n).getD 0 0)
    (hx : w.cell? ⟨b, o, none⟩ = some (.int .u8 (128 + (k : Int)))) (hc : ∀ j, j < k → w.cell? ⟨b, o + (1 + j), none⟩ = some (.int .u8 ((Plain.be k n).getD j 0))) :
    Calls Try.prog 15 #[.slice (some ⟨b, o, none⟩) (1 + k) c] w fun e w' => e = .returned (.tuple #[.int .u64 n, .int .i64 (1 + (k : Int)), .bool true]) ∧ w' = w := by
  have hand := and127 k hk8
  have hx1 : w.cell? ⟨b, o + 1, none⟩ = some (.int .u8 ((Plain.be k n).getD 0 0)) := by simpa using hc 0 (by omega)
  have H : Hid _ := And.intro hc hp0
  have hne : ((Plain.be k n).getD 0 0 == 0) = false := by simp only [beq_eq_false_iff_ne]; omega
  generalize (Plain.be k n).getD 0 0 = y0 at hx1 hh hne
  clear hc hp0
  have hk0 : ((k : Int) == 0) = false := by simp; omega
  have hk9 : decide ((8 : Int) < (k : Int)) = false := by simp; omega
  have hk10 : ((1 : Int) + (k : Int) == 0) = false := by simp only [beq_eq_false_iff_ne]; omega
  go_enter Try.func15, Try.ntmps15
  go_wp2_with fail
  go_loop [7, 8] (fun vv iv => ∃ j : Nat, j ≤ k ∧ iv = .int .i64 (1 + (j : Int)) ∧ vv = .int .u64 (Plain.pre n k j)) (fun _ iv => 1 + k - (intOf iv).toNat)
  case atStart => exact ⟨0, by omega, rfl, by rw [H.out.2]⟩
  case round =>
    obtain ⟨j, hj, rfl, rfl⟩ := hrel
    by_cases hlt : j < k
    · have hcj := H.out.1 j hlt
      have hby := Plain.be_byte n k j
      have hpb := Plain.pre_bd n k j (by omega) h2 hlt hk8
      have hpn := Plain.pre_nonneg n k j (by omega)
      have hps := Plain.pre_step n k j hlt
      generalize (Plain.be k n).getD j 0 = y at hcj hby hps
      generalize Plain.pre n k j = P at hpb hpn hps
      have HS : Hid _ := hps
      clear hps
      have hor := or_join_u64 P y hpn hpb.2 hby.1 hby.2
      go_wp2_with fail
      go_round
      case rel => exact ⟨j + 1, by omega, congrArg (Value.int .i64) (by omega), congrArg (Value.int .u64) HS.out.symm⟩
      case measure => simp [intOf]; omega
    · obtain rfl : j = k := by omega
      rw [Plain.pre_end]
      go_wp2_with fail
      go_ret3
      exact ⟨rfl, rfl⟩

end Go.Proofs.Qxb6602625a
