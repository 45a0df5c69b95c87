import Derived.Test.Qxb6602689aRows
import Derived.Test.Qxb6602689aPlain
import Derived.WalkKit
import Derived.WalkSpells
import Derived.WalkLawsBesides
import Derived.Deep.LoopGhost
namespace Go.Proofs.Qxb6602689a
open Go.RowKit
set_option linter.unusedVariables false

/-- A string's bytes as a list. -/
def L (s : ByteArray) : List UInt8 := s.data.toList
theorem L_eq (s : ByteArray) : s.toList = L s := ByteArray.toList_eq s
theorem L_len (s : ByteArray) : (L s).length = s.size := rfl
theorem L_extract (s : ByteArray) (a b : Nat) : L (s.extract a b) = ((L s).drop a).take (b - a) := Lib.extract_data s a b
theorem L_append (a b : ByteArray) : L (a ++ b) = L a ++ L b := by
  obtain ⟨a⟩ := a
  obtain ⟨b⟩ := b
  show (ByteArray.mk a ++ ByteArray.mk b).data.toList = _
  rw [ByteArray.mk_append_mk]
  simp [L]

/-- Where sub stands first in s, from place f on. -/
def pIdx (s sub : ByteArray) (f : Nat) : Int := Plain.idx ((L s).drop f) (L sub) f

theorem pIdx_hit (s sub : ByteArray) (k : Nat) (h : ((s.extract k (k + sub.size)).toList == sub.toList) = true) : pIdx s sub k = (k : Int) := by
  rw [L_eq, L_eq, L_extract, ← L_len sub, Plain.piece_iff] at h
  exact Plain.idx_hit _ _ _ h
theorem pIdx_miss (s sub : ByteArray) (k : Nat) (hk : k + sub.size ≤ s.size) (h : ((s.extract k (k + sub.size)).toList == sub.toList) = false) : pIdx s sub k = pIdx s sub (k + 1) ∧ k < s.size := by
  rw [L_eq, L_eq, L_extract, ← L_len sub, Plain.piece_iff] at h
  have hlt : k < (L s).length := by
    rw [L_len]
    by_cases e : k < s.size
    · exact e
    · exfalso
      have h0 : sub.size = 0 := by omega
      have h1 : L sub = [] := List.eq_nil_of_length_eq_zero h0
      rw [h1] at h
      simp [List.isPrefixOf] at h
  exact ⟨Plain.drop_step _ _ _ hlt h, hlt⟩
theorem pIdx_end (s sub : ByteArray) (k : Nat) (hk : ¬ k + sub.size ≤ s.size) (hk2 : k ≤ s.size) : pIdx s sub k = -1 :=
  Plain.idx_short _ _ _ (by rw [List.length_drop, L_len, L_len]; omega)
theorem pIdx_bd (s sub : ByteArray) (f : Nat) (hf : f ≤ s.size) : pIdx s sub f < 0 ∨ ((f : Int) ≤ pIdx s sub f ∧ pIdx s sub f + sub.size ≤ s.size) := by
  have := Plain.idx_bd (L sub) ((L s).drop f) f
  rw [List.length_drop, L_len, L_len] at this
  unfold pIdx
  omega

set_option maxHeartbeats 400000 in
/-- THE CONTRACT OF indexFrom. -/
theorem indexFrom_any (s sub : ByteArray) (f : Nat) (w : World) (hs : s.size ≤ 1048576) (hsub : sub.size ≤ 1048576) (hf : f ≤ s.size) :
    Calls Try.prog 8 #[.string s, .string sub, .int .i64 (f : Int)] w fun e w' => e = .returned (.int .i64 (pIdx s sub f)) ∧ w' = w := by
  go_enter Try.func8, Try.ntmps8
  go_wp2_with fail
  go_loop [8] (fun iv => ∃ k : Nat, f ≤ k ∧ k ≤ s.size ∧ iv = .int .i64 (k : Int) ∧ Hid (pIdx s sub f = pIdx s sub k)) (fun iv => s.size + 1 - (intOf iv).toNat)
  case atStart => exact ⟨f, Nat.le_refl _, hf, rfl, rfl⟩
  case round =>
    obtain ⟨k, hk1, hk2, rfl, HI⟩ := hrel
    by_cases h : k + sub.size ≤ s.size
    · by_cases ht : ((s.extract k (k + sub.size)).toList == sub.toList) = true
      · have hp := pIdx_hit s sub k ht
        have HP : Hid _ := HI.out.trans hp
        clear hp
        go_wp2_with fail
        go_ret
        exact ⟨congrArg (fun x => Ending.returned (.int .i64 x)) HP.out.symm, rfl⟩
      · have ht' : ((s.extract k (k + sub.size)).toList == sub.toList) = false := by simpa using ht
        have hp := pIdx_miss s sub k h ht'
        have HP : Hid _ := HI.out.trans hp.1
        have hlt := hp.2
        clear hp ht
        go_wp2_with fail
        go_round
        case rel => exact ⟨k + 1, by omega, by omega, by go_num, HP.out⟩
        case measure => simp [intOf]; omega
    · have HP : Hid _ := HI.out.trans (pIdx_end s sub k h hk2)
      go_wp2_with fail
      go_ret
      exact ⟨congrArg (fun x => Ending.returned (.int .i64 x)) HP.out.symm, rfl⟩

set_option maxHeartbeats 400000 in
/-- THE CONTRACT OF lineAfter, where the marker and a newline behind it are found. -/
theorem lineAfter_ok (s m : ByteArray) (i st e : Nat) (w : World) (hs : s.size ≤ 1048576) (hm : m.size ≤ 1048576) (hst : i + m.size = st) (hi : pIdx s m 0 = (i : Int)) (him : st ≤ s.size)
    (he : pIdx s ⟨#[10]⟩ st = (e : Int)) (hie : st ≤ e) (hes : e ≤ s.size) :
    Calls Try.prog 7 #[.string s, .string m] w fun x w' => x = .returned (.tuple #[.string (s.extract st e), .bool true]) ∧ w' = w := by
  subst hst
  have h1 := indexFrom_any s m 0 w hs hm (Nat.zero_le _)
  rw [hi] at h1
  have h2 := indexFrom_any s ⟨#[10]⟩ (i + m.size) w hs (by show 1 ≤ 1048576; omega) him
  rw [he] at h2
  have H : Hid _ := And.intro h1 h2
  clear h1 h2 hi he
  go_enter Try.func7, Try.ntmps7
  go_wp2_with fail
  refine Calls.mono H.out.1 ?_
  rintro x _ ⟨rfl, rfl⟩
  go_wp2_with fail
  refine Calls.mono H.out.2 ?_
  rintro x _ ⟨rfl, rfl⟩
  go_wp2_with fail
  go_ret2
  exact ⟨rfl, rfl⟩

end Go.Proofs.Qxb6602689a
