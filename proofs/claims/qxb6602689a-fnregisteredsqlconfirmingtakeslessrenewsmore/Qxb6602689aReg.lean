import Derived.Test.Qxb6602689aIndex
import Derived.Test.Qxb6602689aText
namespace Go.Proofs.Qxb6602689a
open Go.RowKit
set_option linter.unusedVariables false

/-- A string out of its bytes. -/
def str (l : List UInt8) : ByteArray := ⟨l.toArray⟩
theorem L_str (l : List UInt8) : L (str l) = l := rfl
theorem str_size (l : List UInt8) : (str l).size = l.length := by simp [str, ByteArray.size]
theorem L_inj {a b : ByteArray} (h : L a = L b) : a = b := by
  obtain ⟨⟨a⟩⟩ := a
  obtain ⟨⟨b⟩⟩ := b
  have : a = b := h
  rw [this]

/-- The text that registeredSQL returns. -/
def S (c d : Bool) : ByteArray := str (Plain.txt c d)

set_option maxHeartbeats 400000 in
theorem micros_any (s : ByteArray) (w : World) (hs : s.size ≤ 1048576) :
    Calls Try.prog 15 #[.string s] w fun e w' => e = .returned (.string (str (Plain.micros (L s)))) ∧ w' = w := by
  go_enter Try.func15, Try.ntmps15
  go_wp2_with fail
  go_ret
  refine ⟨congrArg (fun s => Ending.returned (.string s)) (L_inj ?_), rfl⟩
  rw [L_append, L_append, L_str]
  rfl

set_option maxHeartbeats 1000000 in
set_option maxRecDepth 100000 in
theorem reg_ff (w : World) :
    Calls Try.prog 14 #[.bool false, .bool false] w fun e w' => e = .returned (.string (S false false)) ∧ w' = w := by
  have h1 := micros_any ⟨#[110, 111, 119, 40, 41]⟩ w (by decide)
  have h2 := micros_any ⟨#[101, 120, 99, 108, 117, 100, 101, 100, 46, 101, 120, 112, 105, 114, 101, 115, 95, 97, 116]⟩ w (by decide)
  have H : Hid _ := And.intro h1 h2
  clear h1 h2
  go_enter Try.func14, Try.ntmps14
  go_wp2_with fail
  refine Calls.mono H.out.1 ?_
  rintro x _ ⟨rfl, rfl⟩
  go_wp2_with fail
  refine Calls.mono H.out.2 ?_
  rintro x _ ⟨rfl, rfl⟩
  go_wp2_with fail
  go_ret
  refine ⟨congrArg (fun s => Ending.returned (.string s)) (L_inj ?_), rfl⟩
  simp only [L_append]
  decide +kernel

set_option maxHeartbeats 1000000 in
set_option maxRecDepth 100000 in
theorem reg_ft (w : World) :
    Calls Try.prog 14 #[.bool false, .bool true] w fun e w' => e = .returned (.string (S false true)) ∧ w' = w := by
  have h1 := micros_any ⟨#[110, 111, 119, 40, 41]⟩ w (by decide)
  have h2 := micros_any ⟨#[101, 120, 99, 108, 117, 100, 101, 100, 46, 101, 120, 112, 105, 114, 101, 115, 95, 97, 116]⟩ w (by decide)
  have H : Hid _ := And.intro h1 h2
  clear h1 h2
  go_enter Try.func14, Try.ntmps14
  go_wp2_with fail
  refine Calls.mono H.out.1 ?_
  rintro x _ ⟨rfl, rfl⟩
  go_wp2_with fail
  refine Calls.mono H.out.2 ?_
  rintro x _ ⟨rfl, rfl⟩
  go_wp2_with fail
  go_ret
  refine ⟨congrArg (fun s => Ending.returned (.string s)) (L_inj ?_), rfl⟩
  simp only [L_append]
  decide +kernel

set_option maxHeartbeats 1000000 in
set_option maxRecDepth 100000 in
theorem reg_tf (w : World) :
    Calls Try.prog 14 #[.bool true, .bool false] w fun e w' => e = .returned (.string (S true false)) ∧ w' = w := by
  have h1 := micros_any ⟨#[110, 111, 119, 40, 41]⟩ w (by decide)
  have h2 := micros_any ⟨#[101, 120, 99, 108, 117, 100, 101, 100, 46, 101, 120, 112, 105, 114, 101, 115, 95, 97, 116]⟩ w (by decide)
  have H : Hid _ := And.intro h1 h2
  clear h1 h2
  go_enter Try.func14, Try.ntmps14
  go_wp2_with fail
  refine Calls.mono H.out.1 ?_
  rintro x _ ⟨rfl, rfl⟩
  go_wp2_with fail
  refine Calls.mono H.out.2 ?_
  rintro x _ ⟨rfl, rfl⟩
  go_wp2_with fail
  go_ret
  refine ⟨congrArg (fun s => Ending.returned (.string s)) (L_inj ?_), rfl⟩
  simp only [L_append]
  decide +kernel

set_option maxHeartbeats 1000000 in
set_option maxRecDepth 100000 in
theorem reg_tt (w : World) :
    Calls Try.prog 14 #[.bool true, .bool true] w fun e w' => e = .returned (.string (S true true)) ∧ w' = w := by
  have h1 := micros_any ⟨#[110, 111, 119, 40, 41]⟩ w (by decide)
  have h2 := micros_any ⟨#[101, 120, 99, 108, 117, 100, 101, 100, 46, 101, 120, 112, 105, 114, 101, 115, 95, 97, 116]⟩ w (by decide)
  have H : Hid _ := And.intro h1 h2
  clear h1 h2
  go_enter Try.func14, Try.ntmps14
  go_wp2_with fail
  refine Calls.mono H.out.1 ?_
  rintro x _ ⟨rfl, rfl⟩
  go_wp2_with fail
  refine Calls.mono H.out.2 ?_
  rintro x _ ⟨rfl, rfl⟩
  go_wp2_with fail
  go_ret
  refine ⟨congrArg (fun s => Ending.returned (.string s)) (L_inj ?_), rfl⟩
  simp only [L_append]
  decide +kernel

theorem reg_any (c d : Bool) (w : World) :
    Calls Try.prog 14 #[.bool c, .bool d] w fun e w' => e = .returned (.string (S c d)) ∧ w' = w := by
  cases c <;> cases d
  · exact reg_ff w
  · exact reg_ft w
  · exact reg_tf w
  · exact reg_tt w

set_option maxHeartbeats 400000 in
/-- The exported alias. -/
theorem zzReg (c d : Bool) (w : World) :
    Calls Try.prog 6 #[.bool c, .bool d] w fun e w' => e = .returned (.string (S c d)) ∧ w' = w := by
  have H : Hid _ := reg_any c d w
  go_enter Try.func6, Try.ntmps6
  go_wp2_with fail
  refine Calls.mono H.out ?_
  rintro x _ ⟨rfl, rfl⟩
  go_wp2_with fail
  go_ret
  exact ⟨rfl, rfl⟩

end Go.Proofs.Qxb6602689a
