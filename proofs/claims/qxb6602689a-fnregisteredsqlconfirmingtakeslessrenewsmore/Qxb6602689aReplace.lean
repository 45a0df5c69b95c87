import Derived.Test.Qxb6602689aIndex
namespace Go.Proofs.Qxb6602689a
open Go.RowKit
set_option linter.unusedVariables false

/-- replaceAll, on strings: no more than g pieces. -/
def pRep (s old nw : ByteArray) : Nat → Nat → ByteArray → ByteArray
  | 0, _, out => out
  | g + 1, i, out => if pIdx s old i < 0 then out ++ s.extract i s.size
      else pRep s old nw g ((pIdx s old i).toNat + old.size) (out ++ (s.extract i (pIdx s old i).toNat ++ nw))

theorem L_rest (s : ByteArray) (i : Nat) : L (s.extract i s.size) = (L s).drop i := by
  rw [L_extract, List.take_of_length_le]
  rw [List.length_drop, L_len]
  omega
theorem L_rep (s old nw : ByteArray) : ∀ (g i : Nat) (out : ByteArray), L (pRep s old nw g i out) = Plain.rep (L s) (L old) (L nw) g i (L out) := by
  intro g
  induction g with
  | zero => intro i out; rfl
  | succ g ih =>
    intro i out
    unfold pRep Plain.rep
    have e : pIdx s old i = Plain.idx ((L s).drop i) (L old) i := rfl
    rw [← e]
    split
    · rw [L_append, L_rest]
    · rw [ih, L_append, L_append, L_extract, L_len]

theorem pRep_miss (s old nw : ByteArray) (g i : Nat) (out : ByteArray) (h : pIdx s old i < 0) : pRep s old nw (g + 1) i out = out ++ s.extract i s.size := by
  rw [pRep, if_pos h]
theorem pRep_hit (s old nw : ByteArray) (g i j : Nat) (out : ByteArray) (h : pIdx s old i = (j : Int)) : pRep s old nw (g + 1) i out = pRep s old nw g (j + old.size) (out ++ (s.extract i j ++ nw)) := by
  rw [pRep, if_neg (by omega), h, Int.toNat_natCast]

set_option maxHeartbeats 1000000 in
set_option maxRecDepth 100000 in
/-- THE CONTRACT OF replaceAll, where 'old' is not empty. -/
theorem replaceAll_any (s old nw : ByteArray) (w : World) (hs : s.size ≤ 1048576) (ho : old.size ≤ 1048576) (hn : nw.size ≤ 1048576) (hne : 0 < old.size) (hne' : old.toList.isEmpty = false) :
    Calls Try.prog 11 #[.string s, .string old, .string nw] w fun e w' => e = .returned (.string (pRep s old nw (s.size + 1) 0 ⟨#[]⟩)) ∧ w' = w := by
  go_enter Try.func11, Try.ntmps11
  go_wp2_with fail
  go_loopg [7, 8] (s.size + 1) (fun g ov iv wr => wr = w ∧ ∃ (i : Nat) (out : ByteArray), ov = .string out ∧ iv = .int .i64 (i : Int) ∧ i ≤ s.size ∧ s.size - i < g ∧ out.size + 2097152 * g ≤ 2097152 * (s.size + 1) ∧ Hid (pRep s old nw (s.size + 1) 0 ⟨#[]⟩ = pRep s old nw g i out))
  case atStart => exact ⟨rfl, 0, ⟨#[]⟩, rfl, rfl, by omega, by omega, by show 0 + 2097152 * (s.size + 1) ≤ 2097152 * (s.size + 1); omega, rfl⟩
  case round =>
    obtain ⟨rfl, i, out, rfl, rfl, hi, hg, hsz, HR⟩ := hrel
    obtain ⟨g, rfl⟩ : ∃ g, gk = g + 1 := ⟨gk - 1, by omega⟩
    have hout : out.size ≤ 4398046511104 := by omega
    have HS : Hid _ := hsz
    clear hsz
    rcases pIdx_bd s old i hi with h | ⟨h1, h2⟩
    · have HF : Hid _ := HR.out.trans (pRep_miss s old nw g i out h)
      have HI : Hid _ := indexFrom_any s old i wr hs ho hi
      go_wp2_with fail
      refine Calls.mono HI.out ?_
      rintro x _ ⟨rfl, rfl⟩
      go_wp2_with fail
      go_ret
      exact ⟨congrArg (fun x => Ending.returned (.string x)) HF.out.symm, rfl⟩
    · obtain ⟨j, hj⟩ : ∃ j : Nat, pIdx s old i = (j : Int) := ⟨(pIdx s old i).toNat, by omega⟩
      rw [hj] at h1 h2
      have h1' : i ≤ j := by omega
      have h2' : j + old.size ≤ s.size := by omega
      have hj0 : decide ((j : Int) < 0) = false := by simp
      have HG : Hid _ := hg
      clear h1 h2 hg
      have HF : Hid _ := HR.out.trans (pRep_hit s old nw g i j out hj)
      have hI := indexFrom_any s old i wr hs ho hi
      rw [hj] at hI
      have HI : Hid _ := hI
      clear hI hj
      go_wp2_with fail
      refine Calls.mono HI.out ?_
      rintro x _ ⟨rfl, rfl⟩
      go_wp2_with fail
      have hlen : (out ++ (s.extract i j ++ nw)).size ≤ out.size + 2097152 := by
        rw [ByteArray.size_append, ByteArray.size_append, ByteArray.size_extract]; omega
      have hG := HG.out
      have hS := HS.out
      go_roundg g
      case measure => omega
      case rel => exact ⟨rfl, j + old.size, _, rfl, by go_num, by omega, by omega, by omega, HF.out⟩

end Go.Proofs.Qxb6602689a
