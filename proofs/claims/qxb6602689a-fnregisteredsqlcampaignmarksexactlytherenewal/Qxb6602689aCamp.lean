import Derived.Test.Qxb6602689aReg
import Derived.Deep.QuietTactic
import Derived.BigQuiet
import Derived.Below
namespace Go.Proofs.Qxb6602689a
open Go.RowKit
set_option linter.unusedVariables false

theorem szf : (S false false).size = 800 := by decide +kernel
theorem szt : (S true false).size = 869 := by decide +kernel
theorem when_f : pIdx (S false false) ⟨#[87, 72, 69, 78, 32, 99, 46, 116, 111, 107, 101, 110, 32, 61, 32, 101, 120, 99, 108, 117, 100, 101, 100, 46, 116, 111, 107, 101, 110, 32, 65, 78, 68, 32]⟩ 0 = 294 := by decide +kernel
theorem when_t : pIdx (S true false) ⟨#[87, 72, 69, 78, 32, 99, 46, 116, 111, 107, 101, 110, 32, 61, 32, 101, 120, 99, 108, 117, 100, 101, 100, 46, 116, 111, 107, 101, 110, 32, 65, 78, 68, 32]⟩ 0 = 294 := by decide +kernel
theorem line_f : pIdx (S false false) ⟨#[10]⟩ 328 = 348 := by decide +kernel
theorem line_t : pIdx (S true false) ⟨#[10]⟩ 328 = 442 := by decide +kernel
theorem mark_f : pIdx (S false false) ⟨#[99, 97, 109, 112, 97, 105, 103, 110, 101, 100, 32, 61, 32]⟩ 0 = 535 := by decide +kernel
theorem mark_t : pIdx (S true false) ⟨#[99, 97, 109, 112, 97, 105, 103, 110, 101, 100, 32, 61, 32]⟩ 0 = 629 := by decide +kernel
theorem mend_f : pIdx (S false false) ⟨#[10]⟩ 548 = 560 := by decide +kernel
theorem mend_t : pIdx (S true false) ⟨#[10]⟩ 642 = 654 := by decide +kernel

theorem after_f (w : World) : Calls Try.prog 7 #[.string (S false false), .string ⟨#[87, 72, 69, 78, 32, 99, 46, 116, 111, 107, 101, 110, 32, 61, 32, 101, 120, 99, 108, 117, 100, 101, 100, 46, 116, 111, 107, 101, 110, 32, 65, 78, 68, 32]⟩] w fun x w' => x = .returned (.tuple #[.string ((S false false).extract 328 348), .bool true]) ∧ w' = w :=
  lineAfter_ok _ _ 294 328 348 w (by rw [szf]; omega) (by decide) rfl when_f (by rw [szf]; omega) line_f (by omega) (by rw [szf]; omega)
theorem after_t (w : World) : Calls Try.prog 7 #[.string (S true false), .string ⟨#[87, 72, 69, 78, 32, 99, 46, 116, 111, 107, 101, 110, 32, 61, 32, 101, 120, 99, 108, 117, 100, 101, 100, 46, 116, 111, 107, 101, 110, 32, 65, 78, 68, 32]⟩] w fun x w' => x = .returned (.tuple #[.string ((S true false).extract 328 442), .bool true]) ∧ w' = w :=
  lineAfter_ok _ _ 294 328 442 w (by rw [szt]; omega) (by decide) rfl when_t (by rw [szt]; omega) line_t (by omega) (by rw [szt]; omega)
theorem at_f (w : World) : Calls Try.prog 8 #[.string (S false false), .string ⟨#[99, 97, 109, 112, 97, 105, 103, 110, 101, 100, 32, 61, 32]⟩, .int .i64 0] w fun x w' => x = .returned (.int .i64 535) ∧ w' = w := by
  have := indexFrom_any (S false false) ⟨#[99, 97, 109, 112, 97, 105, 103, 110, 101, 100, 32, 61, 32]⟩ 0 w (by rw [szf]; omega) (by decide) (by omega)
  rw [mark_f] at this; exact this
theorem at_t (w : World) : Calls Try.prog 8 #[.string (S true false), .string ⟨#[99, 97, 109, 112, 97, 105, 103, 110, 101, 100, 32, 61, 32]⟩, .int .i64 0] w fun x w' => x = .returned (.int .i64 629) ∧ w' = w := by
  have := indexFrom_any (S true false) ⟨#[99, 97, 109, 112, 97, 105, 103, 110, 101, 100, 32, 61, 32]⟩ 0 w (by rw [szt]; omega) (by decide) (by omega)
  rw [mark_t] at this; exact this
theorem nl_f (w : World) : Calls Try.prog 8 #[.string (S false false), .string ⟨#[10]⟩, .int .i64 548] w fun x w' => x = .returned (.int .i64 560) ∧ w' = w := by
  have := indexFrom_any (S false false) ⟨#[10]⟩ 548 w (by rw [szf]; omega) (by decide) (by rw [szf]; omega)
  rw [mend_f] at this; exact this
theorem nl_t (w : World) : Calls Try.prog 8 #[.string (S true false), .string ⟨#[10]⟩, .int .i64 642] w fun x w' => x = .returned (.int .i64 654) ∧ w' = w := by
  have := indexFrom_any (S true false) ⟨#[10]⟩ 642 w (by rw [szt]; omega) (by decide) (by rw [szt]; omega)
  rw [mend_t] at this; exact this

set_option maxHeartbeats 1000000 in
set_option maxRecDepth 100000 in
theorem camp_ff (w : World) :
    Calls Try.prog 3 #[.bool false, .bool false] w fun e w' => e = .returned (.bool true) ∧ ∃ q, w' = w.drewN q := by
  have hsz := szf
  have hne : ((S false false).extract 328 348).toList.isEmpty = false := by rw [L_eq, L_extract]; decide +kernel
  have hcc : (((S false false).extract 548 560).toList == [99, 46, 99, 97, 109, 112, 97, 105, 103, 110, 101, 100]) = true := by rw [L_eq, L_extract]; decide +kernel
  have H : Hid _ := And.intro (zzReg false false w) (And.intro (zzReg false false w) (And.intro (after_f w) (And.intro (at_f w) (nl_f w))))
  generalize S false false = B at H hsz hne hcc
  go_enter Try.func3, Try.ntmps3
  go_wp2_with fail
  refine Calls.mono H.out.1 ?_
  rintro x _ ⟨rfl, rfl⟩
  go_wp2_with fail
  refine Calls.mono H.out.2.1 ?_
  rintro x _ ⟨rfl, rfl⟩
  go_wp2_with fail
  refine Calls.mono H.out.2.2.1 ?_
  rintro x _ ⟨rfl, rfl⟩
  go_wp2_with fail
  refine Calls.mono H.out.2.2.2.1 ?_
  rintro x _ ⟨rfl, rfl⟩
  go_wp2_with fail
  refine Calls.mono H.out.2.2.2.2 ?_
  rintro x _ ⟨rfl, rfl⟩
  go_wp2_with fail
  go_ret
  exact ⟨congrArg (fun b => Ending.returned (.bool b)) (by simp), 0, rfl⟩

set_option maxHeartbeats 1000000 in
set_option maxRecDepth 100000 in
theorem camp_ft (w : World) :
    Calls Try.prog 3 #[.bool false, .bool true] w fun e w' => e = .returned (.bool true) ∧ ∃ q, w' = w.drewN q := by
  have hsz := szf
  have hne : ((S false false).extract 328 348).toList.isEmpty = false := by rw [L_eq, L_extract]; decide +kernel
  have hcc : (((S false false).extract 548 560).toList == [99, 46, 99, 97, 109, 112, 97, 105, 103, 110, 101, 100]) = true := by rw [L_eq, L_extract]; decide +kernel
  have hG : ((S false true).toList == ((S false false).extract 0 548 ++ ⟨#[99, 46, 99, 97, 109, 112, 97, 105, 103, 110, 101, 100, 32, 79, 82, 32, 99, 46, 116, 111, 107, 101, 110, 32, 61, 32, 101, 120, 99, 108, 117, 100, 101, 100, 46, 116, 111, 107, 101, 110, 32, 65, 78, 68, 32]⟩ ++ (S false false).extract 328 348 ++ (S false false).extract 560 800).toList) = true := by
    rw [L_eq, L_eq]
    simp only [L_append, L_extract]
    decide +kernel
  have HG : Hid _ := hG
  clear hG
  have H : Hid _ := And.intro (zzReg false true w) (And.intro (zzReg false false w) (And.intro (after_f w) (And.intro (at_f w) (nl_f w))))
  generalize S false true = G at H HG
  generalize S false false = B at H HG hsz hne hcc
  go_enter Try.func3, Try.ntmps3
  go_wp2_with fail
  refine Calls.mono H.out.1 ?_
  rintro x _ ⟨rfl, rfl⟩
  go_wp2_with fail
  refine Calls.mono H.out.2.1 ?_
  rintro x _ ⟨rfl, rfl⟩
  go_wp2_with fail
  refine Calls.mono H.out.2.2.1 ?_
  rintro x _ ⟨rfl, rfl⟩
  go_wp2_with fail
  refine Calls.mono H.out.2.2.2.1 ?_
  rintro x _ ⟨rfl, rfl⟩
  go_wp2_with fail
  refine Calls.mono H.out.2.2.2.2 ?_
  rintro x _ ⟨rfl, rfl⟩
  go_wp2_with fail
  go_quiet (fail)
  go_wp2
  go_ret
  exact ⟨congrArg (fun b => Ending.returned (.bool b)) HG.out, nq, rfl⟩

set_option maxHeartbeats 1000000 in
set_option maxRecDepth 100000 in
theorem camp_tf (w : World) :
    Calls Try.prog 3 #[.bool true, .bool false] w fun e w' => e = .returned (.bool true) ∧ ∃ q, w' = w.drewN q := by
  have hsz := szt
  have hne : ((S true false).extract 328 442).toList.isEmpty = false := by rw [L_eq, L_extract]; decide +kernel
  have hcc : (((S true false).extract 642 654).toList == [99, 46, 99, 97, 109, 112, 97, 105, 103, 110, 101, 100]) = true := by rw [L_eq, L_extract]; decide +kernel
  have H : Hid _ := And.intro (zzReg true false w) (And.intro (zzReg true false w) (And.intro (after_t w) (And.intro (at_t w) (nl_t w))))
  generalize S true false = B at H hsz hne hcc
  go_enter Try.func3, Try.ntmps3
  go_wp2_with fail
  refine Calls.mono H.out.1 ?_
  rintro x _ ⟨rfl, rfl⟩
  go_wp2_with fail
  refine Calls.mono H.out.2.1 ?_
  rintro x _ ⟨rfl, rfl⟩
  go_wp2_with fail
  refine Calls.mono H.out.2.2.1 ?_
  rintro x _ ⟨rfl, rfl⟩
  go_wp2_with fail
  refine Calls.mono H.out.2.2.2.1 ?_
  rintro x _ ⟨rfl, rfl⟩
  go_wp2_with fail
  refine Calls.mono H.out.2.2.2.2 ?_
  rintro x _ ⟨rfl, rfl⟩
  go_wp2_with fail
  go_ret
  exact ⟨congrArg (fun b => Ending.returned (.bool b)) (by simp), 0, rfl⟩

set_option maxHeartbeats 1000000 in
set_option maxRecDepth 100000 in
theorem camp_tt (w : World) :
    Calls Try.prog 3 #[.bool true, .bool true] w fun e w' => e = .returned (.bool true) ∧ ∃ q, w' = w.drewN q := by
  have hsz := szt
  have hne : ((S true false).extract 328 442).toList.isEmpty = false := by rw [L_eq, L_extract]; decide +kernel
  have hcc : (((S true false).extract 642 654).toList == [99, 46, 99, 97, 109, 112, 97, 105, 103, 110, 101, 100]) = true := by rw [L_eq, L_extract]; decide +kernel
  have hG : ((S true true).toList == ((S true false).extract 0 642 ++ ⟨#[99, 46, 99, 97, 109, 112, 97, 105, 103, 110, 101, 100, 32, 79, 82, 32, 99, 46, 116, 111, 107, 101, 110, 32, 61, 32, 101, 120, 99, 108, 117, 100, 101, 100, 46, 116, 111, 107, 101, 110, 32, 65, 78, 68, 32]⟩ ++ (S true false).extract 328 442 ++ (S true false).extract 654 869).toList) = true := by
    rw [L_eq, L_eq]
    simp only [L_append, L_extract]
    decide +kernel
  have HG : Hid _ := hG
  clear hG
  have H : Hid _ := And.intro (zzReg true true w) (And.intro (zzReg true false w) (And.intro (after_t w) (And.intro (at_t w) (nl_t w))))
  generalize S true true = G at H HG
  generalize S true false = B at H HG hsz hne hcc
  go_enter Try.func3, Try.ntmps3
  go_wp2_with fail
  refine Calls.mono H.out.1 ?_
  rintro x _ ⟨rfl, rfl⟩
  go_wp2_with fail
  refine Calls.mono H.out.2.1 ?_
  rintro x _ ⟨rfl, rfl⟩
  go_wp2_with fail
  refine Calls.mono H.out.2.2.1 ?_
  rintro x _ ⟨rfl, rfl⟩
  go_wp2_with fail
  refine Calls.mono H.out.2.2.2.1 ?_
  rintro x _ ⟨rfl, rfl⟩
  go_wp2_with fail
  refine Calls.mono H.out.2.2.2.2 ?_
  rintro x _ ⟨rfl, rfl⟩
  go_wp2_with fail
  go_quiet (fail)
  go_wp2
  go_ret
  exact ⟨congrArg (fun b => Ending.returned (.bool b)) HG.out, nq, rfl⟩

theorem camp_walk (c d : Bool) (w : World) :
    Calls Try.prog 3 #[.bool c, .bool d] w fun e w' => e = .returned (.bool true) ∧ ∃ q, w' = w.drewN q := by
  cases c <;> cases d
  · exact camp_ff w
  · exact camp_ft w
  · exact camp_tf w
  · exact camp_tt w

end Go.Proofs.Qxb6602689a
