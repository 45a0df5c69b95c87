import Derived.Test.Qxb6602625aLength
import Derived.Test.Qxb6602625aBytes
import Derived.Test.Qxb6602625aClone
import Derived.Test.Qxb6602625aDecode
import Derived.OpenShut
namespace Go.Proofs.Qxb6602625a
open Go.RowKit
set_option linter.unusedVariables false

set_option maxHeartbeats 400000 in
theorem zzBytes11 (ao : Option Addr) (len cap : Nat) (v : Int) (w : World) (hl : len ≤ 9223372036854775807) :
    Calls Try.prog 11 #[.slice ao len cap, .int .i64 v] w fun e w' => e = .returned (.bool (decide (len ≤ 1048576))) ∧ w' = w := by
  by_cases h : len ≤ 1048576
  · rw [decide_eq_true h]
    go_enter Try.func11, Try.ntmps11
    go_wp2
    go_ret
    exact ⟨rfl, rfl⟩
  · rw [decide_eq_false h]
    go_enter Try.func11, Try.ntmps11
    go_wp2
    go_ret
    exact ⟨rfl, rfl⟩

/-- What the decoder reads: the encoding's first octet, and, where it is long, the octets behind it. -/
theorem decode_any (b o c m : Nat) (n : Int) (w : World) (h1 : 0 ≤ n) (h2 : n ≤ 9223372036854775807) (hm : (Plain.encLen n).length = m)
    (hc : ∀ j, j < m → w.cell? ⟨b, o + j, none⟩ = some (.int .u8 ((Plain.encLen n).getD j 0))) :
    Calls Try.prog 15 #[.slice (some ⟨b, o, none⟩) m c] w fun e w' => e = .returned (.tuple #[.int .u64 n, .int .i64 (m : Int), .bool true]) ∧ w' = w := by
  by_cases h : n < 128
  · rw [Plain.encLen_short n h] at hm hc
    have : m = 1 := by simpa using hm.symm
    subst this
    exact decode_short b o c n w h1 h (by simpa using hc 0 (by omega))
  · obtain ⟨k, hk1, hk8, hbe, hlen, hp0, hh⟩ := Plain.octs_is_be n (by omega) h2
    rw [Plain.encLen_long n h, hlen, hbe] at hc
    rw [Plain.encLen_long n h] at hm
    have hm' : m = 1 + k := by simp at hm; omega
    subst hm'
    have := decode_long b o c k n w (by omega) h2 hk1 hk8 hp0 hh (by simpa using hc 0 (by omega)) (fun j hj => by have := hc (1 + j) (by omega); rw [this, Nat.add_comm 1 j]; simp)
    simpa using this

set_option maxHeartbeats 1000000 in
theorem len_walk (ao : Option Addr) (len cap : Nat) (xs : List Int) (n : Int) (w : World) (hr : Rd w ao xs) (hlen : xs.length = len) (hnil : ao = none → cap = 0) (hl : len ≤ 9223372036854775807)
    (h1 : -9223372036854775808 ≤ n) (h2 : n ≤ 9223372036854775807) :
    Calls Try.prog 3 #[.slice ao len cap, .int .i64 n] w fun e w' => e = .returned (.bool true) ∧ Below w.heap.size w w' := by
  by_cases hb : len ≤ 1048576
  · have hz := zzBytes11 ao len cap n w hl
    have hc := cloneBytes_any ao len cap xs w hr hlen hb hnil
    rw [decide_eq_true hb] at hz
    have HZ : Hid _ := And.intro hz (And.intro hc hlen)
    clear hz hc hr hlen hnil
    by_cases hn : n < 0
    · go_enter Try.func3, Try.ntmps3
      go_wp2_with fail
      refine Calls.mono HZ.out.1 ?_
      rintro e _ ⟨rfl, rfl⟩
      go_wp2
      go_ret
      exact ⟨rfl, Below.refl _ _⟩
    · go_enter Try.func3, Try.ntmps3
      go_wp2_with fail
      refine Calls.mono HZ.out.1 ?_
      rintro e _ ⟨rfl, rfl⟩
      go_wp2_with fail
      refine Calls.mono HZ.out.2.1 ?_
      rintro e w1 ⟨ao1, rfl, hrd1, hb1⟩
      go_wp2_with fail
      refine (zzAppendLength ao1 len xs n w1 hrd1 HZ.out.2.2 hb (by omega) h2).mono ?_
      rintro e w2 ⟨v2, rfl, hown, hb2⟩
      obtain ⟨m, hm⟩ : ∃ m, (Plain.encLen n).length = m := ⟨_, rfl⟩
      have hm9 := (Plain.encLen_mono n n (Int.le_refl _))
      obtain ⟨ao2, c2, rfl, hrd2, hl2, -, hcap2⟩ := Rd.of_owns hown
      rw [← hl2] at hcap2 ⊢
      rw [hm] at hcap2 hm9 ⊢
      have hrd3 := hrd1.below hb2
      have HL : Hid _ := And.intro hrd2 hm
      clear hown hrd1 hrd2 hl2 hm
      go_wp2_with fail
      refine (hasBytePrefix_true _ _ _ _ _ _ _ _ _ HL.out.1 hrd3 HZ.out.2.2 (by rw [HL.out.2]) (by omega)).mono ?_
      rintro e _ ⟨rfl, q, rfl⟩
      clear hrd3
      obtain ⟨b2, o2, rfl, hc2⟩ := HL.out.1.at (by have := HL.out.2; simp; omega)
      have HC : Hid (∀ k, k < m → (w2.drewN q).cell? ⟨b2, o2 + len + k, none⟩ = some (.int .u8 ((Plain.encLen n).getD k 0))) := by
        intro k hk
        have hlen := HZ.out.2.2
        have hm := HL.out.2
        have := hc2 (len + k) (by simp; omega)
        rw [World.cell?_drewN, Nat.add_assoc, this]
        congr 2
        simp [List.getElem?_append_right (show xs.length ≤ len + k by omega), show len + k - xs.length = k by omega]
      clear hc2
      go_wp2_with fail
      refine (decode_any _ _ _ _ n _ (by omega) h2 HL.out.2 HC.out).mono ?_
      rintro e _ ⟨rfl, rfl⟩
      go_wp2
      go_ret
      exact ⟨rfl, below_drewN (hb1.trans (hb2.mono hb1.size)) q⟩
  · have hz := zzBytes11 ao len cap n w hl
    rw [decide_eq_false hb] at hz
    have HZ : Hid _ := hz
    clear hz hr hlen hnil
    go_enter Try.func3, Try.ntmps3
    go_wp2_with fail
    refine Calls.mono HZ.out ?_
    rintro e _ ⟨rfl, rfl⟩
    go_wp2
    go_ret
    exact ⟨rfl, Below.refl _ _⟩

end Go.Proofs.Qxb6602625a
