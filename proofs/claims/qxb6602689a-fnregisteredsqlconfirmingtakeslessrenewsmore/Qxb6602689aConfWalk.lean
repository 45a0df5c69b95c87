import Derived.Test.Qxb6602689aConf
namespace Go.Proofs.Qxb6602689a
open Go.RowKit
set_option linter.unusedVariables false

set_option maxHeartbeats 2000000 in
set_option maxRecDepth 100000 in
theorem conf_walk (d : Bool) (w : World) :
    Calls Try.prog 4 #[.bool d] w fun e w' => e = .returned (.bool true) ∧ w' = w := by
  have hRP : (str (Plain.renews false)).toList.isEmpty = false := by rw [L_eq]; decide +kernel
  have hRC : (str (Plain.renews true)).toList.isEmpty = false := by rw [L_eq]; decide +kernel
  have hTC : ((str (Plain.takes true)).toList == [99, 46, 116, 111, 107, 101, 110, 32, 61, 32, 101, 120, 99, 108, 117, 100, 101, 100, 46, 116, 111, 107, 101, 110]) = true := by rw [L_eq]; decide +kernel
  have hTP : ((str (Plain.takes false)).toList == (str (Plain.takes true) ++ ⟨#[32, 79, 82, 32, 99, 46, 101, 120, 112, 105, 114, 101, 115, 95, 97, 116, 32, 60, 61, 32, 110, 111, 119, 40, 41]⟩).toList) = true := by rw [L_eq, L_eq]; simp only [L_append]; decide +kernel
  have sRP : (str (Plain.renews false)).size ≤ 1000 := by decide +kernel
  have sTP : (str (Plain.takes false)).size ≤ 1000 := by decide +kernel
  have sTC : (str (Plain.takes true)).size ≤ 1000 := by decide +kernel
  have H : Hid _ := And.intro (zzReg false d w) (And.intro (zzReg true d w) (And.intro (whenP d w) (And.intro (whenC d w) (And.intro (whereP d w) (And.intro (whereC d w) (And.intro (xminP w) (And.intro (xminC w) (And.intro (preC w) (And.intro (sufC w) (And.intro (rep1 d w) (rep2 d w)))))))))))
  generalize S false d = P at H
  generalize S true d = C at H
  generalize str (mix d) = K at H
  generalize str (Plain.renews false) = RP at H hRP sRP
  generalize str (Plain.renews true) = RC at H hRC
  generalize str (Plain.takes true) = TC at H hTC hTP sTC
  generalize str (Plain.takes false) = TP at H hTP sTP
  go_enter Try.func4, Try.ntmps4
  go_wp2_with fail
  refine Calls.mono H.out.1 ?_
  rintro x _ ⟨rfl, rfl⟩
  go_wp2_with fail
  refine Calls.mono H.out.2.1 ?_
  rintro x _ ⟨rfl, rfl⟩
  go_wp2_with fail
  refine Calls.mono H.out.2.2.1 ?_
  rintro x _ ⟨rfl, rfl⟩
  go_wp2_with fail
  refine Calls.mono H.out.2.2.2.1 ?_
  rintro x _ ⟨rfl, rfl⟩
  go_wp2_with fail
  refine Calls.mono H.out.2.2.2.2.1 ?_
  rintro x _ ⟨rfl, rfl⟩
  go_wp2_with fail
  refine Calls.mono H.out.2.2.2.2.2.1 ?_
  rintro x _ ⟨rfl, rfl⟩
  go_wp2_with fail
  refine Calls.mono H.out.2.2.2.2.2.2.1 ?_
  rintro x _ ⟨rfl, rfl⟩
  go_wp2_with fail
  refine Calls.mono H.out.2.2.2.2.2.2.2.1 ?_
  rintro x _ ⟨rfl, rfl⟩
  go_wp2_with fail
  refine Calls.mono H.out.2.2.2.2.2.2.2.2.1 ?_
  rintro x _ ⟨rfl, rfl⟩
  go_wp2_with fail
  refine Calls.mono H.out.2.2.2.2.2.2.2.2.2.1 ?_
  rintro x _ ⟨rfl, rfl⟩
  go_wp2_with fail
  refine Calls.mono H.out.2.2.2.2.2.2.2.2.2.2.1 ?_
  rintro x _ ⟨rfl, rfl⟩
  go_wp2_with fail
  refine Calls.mono H.out.2.2.2.2.2.2.2.2.2.2.2 ?_
  rintro x _ ⟨rfl, rfl⟩
  go_wp2_with fail
  go_ret
  exact ⟨congrArg (fun b => Ending.returned (.bool b)) (by simp), rfl⟩

end Go.Proofs.Qxb6602689a
