import Derived.Test.Qxb6602625aLength
import Derived.Test.Qxb6602625aInteger
import Derived.Test.Qxb6602625aBytes
import Derived.OpenShut
namespace Go.Proofs.Qxb6602625a
open Go.RowKit
set_option linter.unusedVariables false

/-! ### THE WALK: the Go text returns true, and writes nothing that was there -/
set_option maxHeartbeats 1000000 in
theorem agree_walk (a0 : Int) (w0 : (Lit.int .i64 a0).wf = true) (w : World) :
    Calls Try.prog 5 #[.int .i64 a0] w fun e w' => e = .returned (.bool true) ∧ Below w.heap.size w w' := by
  have b0 := bounds_i64 w0
  by_cases c0 : a0 < 128
  · go_enter Try.func5, Try.ntmps5
    go_wp2
    go_ret
    exact ⟨rfl, Below.refl _ _⟩
  go_enter Try.func5, Try.ntmps5
  go_wp2_with fail
  refine (zzAppendLength none 0 [] a0 w (Rd.nil _) rfl (by omega) (by omega) (by omega)).mono ?_
  rintro e w1 ⟨v, rfl, hown, hb1⟩
  rw [Plain.encLen_long a0 (by omega)] at hown
  obtain ⟨ao1, c1, rfl, hrd1, hn1, -, hcap1⟩ := Rd.of_owns hown
  clear hown hn1
  rw [List.nil_append] at hrd1 hcap1
  rw [List.length_cons] at hcap1
  go_wp2_with fail
  refine (zzAppendInteger none 0 [] a0 w1 (Rd.nil _) rfl (by omega) (by omega) (by omega)).mono ?_
  rintro e w2 ⟨v2, L, rfl, hL, hon⟩
  have hb2 := hon.bel
  obtain ⟨hL2, hLl, hag⟩ := Plain.agree a0 L (by omega) (by omega) hL
  have hL8 := hL.hi
  obtain ⟨ao2, c2, rfl, hrd2, hcap2⟩ := hon.read (Rd.nil _) rfl
  clear hon hL
  rw [List.nil_append] at hrd2
  replace hrd1 := hrd1.below (hb2.mono (Nat.le_refl _))
  have hk := Plain.octs_len_le 8 a0
  obtain ⟨b1, o1, rfl, hc1⟩ := hrd1.at (by simp)
  obtain ⟨b2, o2, rfl, hc2⟩ := hrd2.at (by omega)
  have he0 : w2.cell? ⟨b1, o1, none⟩ = some (.int .u8 (128 + ((Plain.octs 8 a0).length : Int))) := by simpa using hc1 0 (by simp)
  have hf0 : w2.cell? ⟨b2, o2, none⟩ = some (.int .u8 (a0 / 2 ^ (8 * (L - 1)) % 256)) := by
    have := hc2 0 (by omega)
    obtain ⟨j, rfl⟩ : ∃ j, L = j + 1 := ⟨L - 1, by omega⟩
    simpa [Plain.be] using this
  have hrd3 := hrd1.drop 1
  have hrd4 := hrd2.drop 1
  clear hc1 hc2 hrd1
  rw [List.drop_one, List.tail_cons] at hrd3
  rw [hLl] at hcap2 ⊢
  generalize a0 / 2 ^ (8 * (L - 1)) % 256 = h0 at hag hf0
  rcases hag with ⟨hz, hbe⟩ | ⟨hz, hbe⟩
  · subst hz
    have hd : (Plain.be L a0).drop 1 = Plain.octs 8 a0 := by
      obtain ⟨j, rfl⟩ : ∃ j, L = j + 1 := ⟨L - 1, by omega⟩
      exact hbe
    rw [hd] at hrd4
    have hkl : (Plain.octs 8 a0).length = L - 1 := by rw [← hbe]; exact Plain.be_len _ _
    rw [hkl] at he0 hcap1
    have HK := And.intro hrd3 (And.intro hrd4 hkl)
    clear hd hrd2 hrd3 hrd4 hbe hkl
    go_wp2_with fail
    refine (sameBytes_true _ _ _ _ _ _ _ HK.1 HK.2.1 HK.2.2 (by omega)).mono ?_
    rintro e w3 ⟨rfl, q, rfl⟩
    go_wp2
    go_ret
    exact ⟨rfl, below_drewN (hb1.trans (hb2.mono hb1.size)) q⟩
  · have hkl : (Plain.octs 8 a0).length = L := by rw [← hbe]; exact hLl
    rw [hbe] at hrd2
    have hz' : (h0 == 0) = false := by simp [hz]
    rw [hkl] at he0 hcap1
    have HK := And.intro hrd3 (And.intro hrd2 hkl)
    clear hrd2 hrd3 hrd4 hbe hkl hz
    go_wp2_with fail
    refine (sameBytes_true _ _ _ _ _ _ _ HK.1 HK.2.1 HK.2.2 (by omega)).mono ?_
    rintro e w3 ⟨rfl, q, rfl⟩
    go_wp2
    go_ret
    exact ⟨rfl, below_drewN (hb1.trans (hb2.mono hb1.size)) q⟩

end Go.Proofs.Qxb6602625a
