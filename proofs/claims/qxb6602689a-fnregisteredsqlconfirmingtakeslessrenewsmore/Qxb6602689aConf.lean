import Derived.Test.Qxb6602689aReg
import Derived.Test.Qxb6602689aReplace
import Derived.Deep.QuietTactic
import Derived.BigQuiet
namespace Go.Proofs.Qxb6602689a
open Go.RowKit
set_option linter.unusedVariables false

/-- The confirming text with the renewal's condition turned. -/
def mix (d : Bool) : List UInt8 := Plain.p1 ++ Plain.renews false ++ Plain.p2 ++ Plain.micros Plain.nowCall ++ Plain.p3 ++ Plain.micros Plain.exclExp ++ Plain.p4 ++ Plain.marked false d ++ Plain.p5 ++ Plain.takes true ++ Plain.p6

theorem sz_le (c d : Bool) : (S c d).size ≤ 1048576 := by
  cases c <;> cases d <;> decide +kernel

theorem whenP (d : Bool) (w : World) : Calls Try.prog 7 #[.string (S false d), .string ⟨#[87, 72, 69, 78, 32, 99, 46, 116, 111, 107, 101, 110, 32, 61, 32, 101, 120, 99, 108, 117, 100, 101, 100, 46, 116, 111, 107, 101, 110, 32, 65, 78, 68, 32]⟩] w fun x w' => x = .returned (.tuple #[.string (str (Plain.renews false)), .bool true]) ∧ w' = w := by
  have e : (S false d).extract 328 348 = str (Plain.renews false) := L_inj (by rw [L_extract, L_str]; cases d <;> decide +kernel)
  rw [← e]
  exact lineAfter_ok _ _ 294 328 348 w (sz_le _ _) (by decide) rfl (by cases d <;> decide +kernel) (by cases d <;> decide +kernel) (by cases d <;> decide +kernel) (by omega) (by cases d <;> decide +kernel)
theorem whenC (d : Bool) (w : World) : Calls Try.prog 7 #[.string (S true d), .string ⟨#[87, 72, 69, 78, 32, 99, 46, 116, 111, 107, 101, 110, 32, 61, 32, 101, 120, 99, 108, 117, 100, 101, 100, 46, 116, 111, 107, 101, 110, 32, 65, 78, 68, 32]⟩] w fun x w' => x = .returned (.tuple #[.string (str (Plain.renews true)), .bool true]) ∧ w' = w := by
  have e : (S true d).extract 328 442 = str (Plain.renews true) := L_inj (by rw [L_extract, L_str]; cases d <;> decide +kernel)
  rw [← e]
  exact lineAfter_ok _ _ 294 328 442 w (sz_le _ _) (by decide) rfl (by cases d <;> decide +kernel) (by cases d <;> decide +kernel) (by cases d <;> decide +kernel) (by omega) (by cases d <;> decide +kernel)
theorem whereP (d : Bool) (w : World) : Calls Try.prog 7 #[.string (S false d), .string ⟨#[10, 9, 87, 72, 69, 82, 69, 32]⟩] w fun x w' => x = .returned (.tuple #[.string (str (Plain.takes false)), .bool true]) ∧ w' = w := by
  cases d with
  | false =>
    have e : (S false false).extract 568 617 = str (Plain.takes false) := L_inj (by rw [L_extract, L_str]; decide +kernel)
    rw [← e]
    exact lineAfter_ok _ _ 560 568 617 w (sz_le _ _) (by decide) rfl (by decide +kernel) (by decide +kernel) (by decide +kernel) (by omega) (by decide +kernel)
  | true =>
    have e : (S false true).extract 621 670 = str (Plain.takes false) := L_inj (by rw [L_extract, L_str]; decide +kernel)
    rw [← e]
    exact lineAfter_ok _ _ 613 621 670 w (sz_le _ _) (by decide) rfl (by decide +kernel) (by decide +kernel) (by decide +kernel) (by omega) (by decide +kernel)
theorem whereC (d : Bool) (w : World) : Calls Try.prog 7 #[.string (S true d), .string ⟨#[10, 9, 87, 72, 69, 82, 69, 32]⟩] w fun x w' => x = .returned (.tuple #[.string (str (Plain.takes true)), .bool true]) ∧ w' = w := by
  cases d with
  | false =>
    have e : (S true false).extract 662 686 = str (Plain.takes true) := L_inj (by rw [L_extract, L_str]; decide +kernel)
    rw [← e]
    exact lineAfter_ok _ _ 654 662 686 w (sz_le _ _) (by decide) rfl (by decide +kernel) (by decide +kernel) (by decide +kernel) (by omega) (by decide +kernel)
  | true =>
    have e : (S true true).extract 809 833 = str (Plain.takes true) := L_inj (by rw [L_extract, L_str]; decide +kernel)
    rw [← e]
    exact lineAfter_ok _ _ 801 809 833 w (sz_le _ _) (by decide) rfl (by decide +kernel) (by decide +kernel) (by decide +kernel) (by omega) (by decide +kernel)

theorem xminP (w : World) : Calls Try.prog 8 #[.string (str (Plain.renews false)), .string ⟨#[120, 109, 105, 110]⟩, .int .i64 0] w fun x w' => x = .returned (.int .i64 (-1)) ∧ w' = w := by
  have h := indexFrom_any (str (Plain.renews false)) ⟨#[120, 109, 105, 110]⟩ 0 w (by decide +kernel) (by decide) (by omega)
  rw [show pIdx (str (Plain.renews false)) ⟨#[120, 109, 105, 110]⟩ 0 = -1 by decide +kernel] at h
  exact h
theorem xminC (w : World) : Calls Try.prog 8 #[.string (str (Plain.renews true)), .string ⟨#[99, 46, 120, 109, 105, 110, 58, 58, 116, 101, 120, 116, 58, 58, 98, 105, 103, 105, 110, 116, 32, 61, 32, 40, 83, 69, 76, 69, 67, 84, 32, 97, 46, 99, 108, 97, 105, 109]⟩, .int .i64 0] w fun x w' => x = .returned (.int .i64 25) ∧ w' = w := by
  have h := indexFrom_any (str (Plain.renews true)) ⟨#[99, 46, 120, 109, 105, 110, 58, 58, 116, 101, 120, 116, 58, 58, 98, 105, 103, 105, 110, 116, 32, 61, 32, 40, 83, 69, 76, 69, 67, 84, 32, 97, 46, 99, 108, 97, 105, 109]⟩ 0 w (by decide +kernel) (by decide) (by omega)
  rw [show pIdx (str (Plain.renews true)) ⟨#[99, 46, 120, 109, 105, 110, 58, 58, 116, 101, 120, 116, 58, 58, 98, 105, 103, 105, 110, 116, 32, 61, 32, 40, 83, 69, 76, 69, 67, 84, 32, 97, 46, 99, 108, 97, 105, 109]⟩ 0 = 25 by decide +kernel] at h
  exact h

set_option maxHeartbeats 400000 in
theorem hasPrefix_true (s t : ByteArray) (w : World) (hs : s.size ≤ 1048576) (h : t.size ≤ s.size) (hp : ((s.extract 0 t.size).toList == t.toList) = true) :
    Calls Try.prog 9 #[.string s, .string t] w fun e w' => e = .returned (.bool true) ∧ w' = w := by
  go_enter Try.func9, Try.ntmps9
  go_wp2_with fail
  go_ret
  exact ⟨rfl, rfl⟩
set_option maxHeartbeats 400000 in
theorem hasSuffix_true (s t : ByteArray) (w : World) (hs : s.size ≤ 1048576) (h : t.size ≤ s.size) (hp : ((s.extract (s.size - t.size) s.size).toList == t.toList) = true) :
    Calls Try.prog 10 #[.string s, .string t] w fun e w' => e = .returned (.bool true) ∧ w' = w := by
  go_enter Try.func10, Try.ntmps10
  go_wp2_with fail
  go_ret
  exact ⟨rfl, rfl⟩

theorem preC (w : World) : Calls Try.prog 9 #[.string (str (Plain.renews true)), .string (⟨#[40]⟩ ++ str (Plain.renews false) ++ ⟨#[32, 79, 82, 32]⟩)] w fun e w' => e = .returned (.bool true) ∧ w' = w :=
  hasPrefix_true _ _ w (by decide +kernel) (by decide +kernel) (by rw [L_eq, L_eq, L_extract]; simp only [L_append, L_str]; decide +kernel)
theorem sufC (w : World) : Calls Try.prog 10 #[.string (str (Plain.renews true)), .string ⟨#[41]⟩] w fun e w' => e = .returned (.bool true) ∧ w' = w :=
  hasSuffix_true _ _ w (by decide +kernel) (by decide +kernel) (by rw [L_eq, L_eq, L_extract]; decide +kernel)

theorem rep1 (d : Bool) (w : World) : Calls Try.prog 11 #[.string (S true d), .string (str (Plain.renews true)), .string (str (Plain.renews false))] w fun e w' => e = .returned (.string (str (mix d))) ∧ w' = w := by
  have h := replaceAll_any (S true d) (str (Plain.renews true)) (str (Plain.renews false)) w (sz_le _ _) (by decide +kernel) (by decide +kernel) (by decide +kernel) (by rw [L_eq]; decide +kernel)
  rw [show pRep (S true d) (str (Plain.renews true)) (str (Plain.renews false)) ((S true d).size + 1) 0 ⟨#[]⟩ = str (mix d) from L_inj (by rw [L_rep, L_str]; cases d <;> decide +kernel)] at h
  exact h
theorem rep2 (d : Bool) (w : World) : Calls Try.prog 11 #[.string (str (mix d)), .string (⟨#[10, 9, 87, 72, 69, 82, 69, 32]⟩ ++ str (Plain.takes true) ++ ⟨#[10]⟩), .string (⟨#[10, 9, 87, 72, 69, 82, 69, 32]⟩ ++ str (Plain.takes false) ++ ⟨#[10]⟩)] w fun e w' => e = .returned (.string (S false d)) ∧ w' = w := by
  have h := replaceAll_any (str (mix d)) (⟨#[10, 9, 87, 72, 69, 82, 69, 32]⟩ ++ str (Plain.takes true) ++ ⟨#[10]⟩) (⟨#[10, 9, 87, 72, 69, 82, 69, 32]⟩ ++ str (Plain.takes false) ++ ⟨#[10]⟩) w (by cases d <;> decide +kernel) (by decide +kernel) (by decide +kernel) (by decide +kernel) (by rw [L_eq]; simp only [L_append]; decide +kernel)
  rw [show pRep (str (mix d)) (⟨#[10, 9, 87, 72, 69, 82, 69, 32]⟩ ++ str (Plain.takes true) ++ ⟨#[10]⟩) (⟨#[10, 9, 87, 72, 69, 82, 69, 32]⟩ ++ str (Plain.takes false) ++ ⟨#[10]⟩) ((str (mix d)).size + 1) 0 ⟨#[]⟩ = S false d from L_inj (by rw [L_rep]; simp only [L_append]; cases d <;> decide +kernel)] at h
  exact h

end Go.Proofs.Qxb6602689a
