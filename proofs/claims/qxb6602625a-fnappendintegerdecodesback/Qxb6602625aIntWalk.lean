import Derived.Test.Qxb6602625aInteger
import Derived.Test.Qxb6602625aBytes
import Derived.Test.Qxb6602625aClone
import Derived.OpenShut
namespace Go.Proofs.Qxb6602625a
open Go.RowKit
set_option linter.unusedVariables false

set_option maxHeartbeats 400000 in
theorem zzBytes18 (ao : Option Addr) (len cap : Nat) (v : Int) (w : World) (hl : len ≤ 9223372036854775807) :
    Calls Try.prog 18 #[.slice ao len cap, .int .i64 v] w fun e w' => e = .returned (.bool (decide (len ≤ 1048576))) ∧ w' = w := by
  by_cases h : len ≤ 1048576
  · rw [decide_eq_true h]
    go_enter Try.func18, Try.ntmps18
    go_wp2
    go_ret
    exact ⟨rfl, rfl⟩
  · rw [decide_eq_false h]
    go_enter Try.func18, Try.ntmps18
    go_wp2
    go_ret
    exact ⟨rfl, rfl⟩

theorem and_hi_fin : ∀ n : Fin 256, (bits BinOp.and IntKind.u8 ((n.val : Nat) : Int) 128 == 0) = decide (n.val < 128) := by decide +kernel
theorem and_hi (y : Int) (h0 : 0 ≤ y) (h1 : y ≤ 255) : (bits BinOp.and IntKind.u8 y 128 == 0) = decide (y < 128) := by
  obtain ⟨n, rfl⟩ := Int.eq_ofNat_of_zero_le h0
  have := and_hi_fin ⟨n, by omega⟩
  simp only at this
  rw [this]
  simp; omega
theorem i8_first (p y : Int) (h1 : -128 ≤ p) (h2 : p ≤ 127) (h3 : y = p % 256) : IntKind.i8.wrap y = p := by
  subst h3
  simp [IntKind.wrap, IntKind.bits, IntKind.signed]
  omega

theorem first_eq {y p : Int} (h : IntKind.i8.wrap y = p) (h1 : -128 ≤ p) (h2 : p ≤ 127) : wrap64 (IntKind.i8.wrap y) = p := by
  rw [h]; exact IntWalk.wrap64_in p ⟨by omega, by omega⟩
theorem first_zero {y p : Int} (h : IntKind.i8.wrap y = p) (hy : y = 0) : 0 = p := by
  subst hy; rw [← h]; rfl
theorem first_255 {y p : Int} (h : IntKind.i8.wrap y = p) (hy : y = 255) (h1 : -128 ≤ p) (h2 : p ≤ 127) : wrap64 (IntKind.i8.wrap 255) = p := by
  subst hy; exact first_eq h h1 h2
theorem or_join (P y : Int) (h1 : -36028797018963968 ≤ P) (h2 : P ≤ 36028797018963967) (h3 : 0 ≤ y) (h4 : y ≤ 255) : bits BinOp.or IntKind.i64 (P * 256) y = P * 256 + y := by
  obtain ⟨b, rfl⟩ := Int.eq_ofNat_of_zero_le h3
  have hb : b % 18446744073709551616 = b := by omega
  obtain ⟨A, hA⟩ : ∃ A : Nat, ((P * 256) % 18446744073709551616) = (A : Int) * 256 := ⟨((P * 256) % 18446744073709551616 / 256).toNat, by omega⟩
  have e1 : (BitVec.ofInt 64 (P * 256)).toNat = 2 ^ 8 * A := by
    rw [BitVec.toNat_ofInt]
    show ((P * 256) % 18446744073709551616).toNat = _
    rw [hA]; omega
  have e2 : (BitVec.ofInt 64 (b : Int)).toNat = b := by
    rw [BitVec.toNat_ofInt]
    show ((b : Int) % 18446744073709551616).toNat = _
    omega
  show IntKind.i64.wrap ((BitVec.ofInt 64 (P * 256) ||| BitVec.ofInt 64 (b : Int)).toNat : Int) = _
  rw [BitVec.toNat_or, e1, e2, ← Nat.two_pow_add_eq_or_of_lt (by omega : b < 2 ^ 8) A, IntKind.wrap_i64]
  omega

set_option maxHeartbeats 1000000 in
theorem int_walk (ao : Option Addr) (len cap : Nat) (xs : List Int) (v : Int) (w : World) (hr : Rd w ao xs) (hlen : xs.length = len) (hnil : ao = none → cap = 0) (hl : len ≤ 9223372036854775807)
    (h1 : -9223372036854775808 ≤ v) (h2 : v ≤ 9223372036854775807) :
    Calls Try.prog 6 #[.slice ao len cap, .int .i64 v] w fun e w' => e = .returned (.bool true) ∧ Below w.heap.size w w' := by
  by_cases hb : len ≤ 1048576
  · have hz := zzBytes18 ao len cap v w hl
    have hc := cloneBytes_any ao len cap xs w hr hlen hb hnil
    rw [decide_eq_true hb] at hz
    have HZ : Hid _ := And.intro hz (And.intro hc hlen)
    clear hz hc hr hlen hnil
    go_enter Try.func6, Try.ntmps6
    go_wp2_with fail
    refine HZ.1.mono ?_
    rintro e _ ⟨rfl, rfl⟩
    go_wp2_with fail
    refine HZ.2.1.mono ?_
    rintro e w1 ⟨ao1, rfl, hrd1, hb1⟩
    go_wp2_with fail
    refine (zzAppendInteger ao1 len xs v w1 hrd1 HZ.2.2 hb h1 h2).mono ?_
    rintro e w2 ⟨v2, L, rfl, hL, hon⟩
    have hb2 := hon.bel
    have hlo := hL.lo
    have hhi := hL.hi
    obtain ⟨ao2, c2, rfl, hrd2, hcap2⟩ := hon.read hrd1 HZ.2.2
    rw [Plain.be_len] at hcap2 ⊢
    have hrd3 := hrd1.below hb2
    have HL : Hid _ := And.intro hL hrd2
    clear hon hrd1 hL hrd2
    go_wp2_with fail
    refine (hasBytePrefix_true _ _ _ _ _ _ _ _ _ HL.2 hrd3 HZ.2.2 (by rw [Plain.be_len]) (by omega)).mono ?_
    rintro e _ ⟨rfl, q, rfl⟩
    clear hrd3
    obtain ⟨b2, o2, rfl, hc2⟩ := HL.2.at (by simp [Plain.be_len]; omega)
    have hcells : ∀ k, k < L → w2.cell? ⟨b2, o2 + len + k, none⟩ = some (.int .u8 ((Plain.be L v).getD k 0)) := by
      intro k hk
      have hlen := HZ.2.2
      have := hc2 (len + k) (by simp [Plain.be_len]; omega)
      rw [Nat.add_assoc, this]
      congr 2
      simp [List.getElem?_append_right (show xs.length ≤ len + k by omega), show len + k - xs.length = k by omega]
    have hp := Plain.pre_first v L h1 h2 HL.1
    have hx0 : w2.cell? ⟨b2, o2 + len, none⟩ = some (.int .u8 ((Plain.be L v).getD 0 0)) := by simpa using hcells 0 (by omega)
    have hby := Plain.be_byte v L 0
    have HC : Hid _ := hcells
    clear hc2 hcells
    have hcase : (L ≤ 1) ∨ (1 < L ∧ ∃ y1, 0 ≤ y1 ∧ y1 ≤ 255 ∧ w2.cell? ⟨b2, o2 + len + 1, none⟩ = some (.int .u8 y1) ∧ (((Plain.be L v).getD 0 0 ≤ 0 ∧ (bits BinOp.and IntKind.u8 y1 128 == 0) = false) ∨ (255 ≤ (Plain.be L v).getD 0 0 ∧ (bits BinOp.and IntKind.u8 y1 128 == 0) = true ∧ (bits BinOp.and IntKind.u8 y1 128 != 0) = false) ∨ (1 ≤ (Plain.be L v).getD 0 0 ∧ (Plain.be L v).getD 0 0 ≤ 254))) := by
      by_cases hL1 : 1 < L
      · obtain ⟨hm1, hm2⟩ := Plain.be_minimal v L h1 h2 HL.1 hL1
        have hby1 := Plain.be_byte v L 1
        refine .inr ⟨hL1, _, hby1.1, hby1.2, HC.out 1 hL1, ?_⟩
        simp only [bne, and_hi _ hby1.1 hby1.2]
        generalize (Plain.be L v).getD 0 0 = y0 at hby hm1 hm2
        generalize (Plain.be L v).getD 1 0 = y1 at hby1 hm1 hm2
        by_cases e0 : y0 = 0
        · exact .inl ⟨by omega, by simp; omega⟩
        · by_cases e1 : y0 = 255
          · exact .inr (.inl ⟨by omega, by simp; omega, by simp; omega⟩)
          · exact .inr (.inr (by omega))
      · exact .inl (by omega)
    have hi8 := i8_first _ _ hp.1 hp.2.1 hp.2.2
    generalize (Plain.be L v).getD 0 0 = y0 at hx0 hby hcase hi8
    have HI : Hid _ := And.intro hi8 (And.intro hp.1 hp.2.1)
    clear hp hi8
    rcases hcase with hL1 | ⟨hL1, y1, hy1, hy2, hx1, ⟨e0, e1⟩ | ⟨e0, e1, e2⟩ | ⟨e0, e1⟩⟩
    all_goals
      go_wp2_with fail
      go_loop [7, 8] (fun av iv => ∃ k : Nat, 1 ≤ k ∧ k ≤ L ∧ iv = .int .i64 k ∧ av = .int .i64 (Plain.pre v L k)) (fun _ iv => L - (intOf iv).toNat)
      case atStart =>
        refine ⟨1, by omega, hlo, rfl, congrArg (Value.int .i64) ?_⟩
        have hI := HI.out
        first | exact first_eq hI.1 hI.2.1 hI.2.2 | exact first_zero hI.1 (by omega) | exact first_255 hI.1 (by omega) hI.2.1 hI.2.2
      case round =>
        obtain ⟨k, hk1, hk2, rfl, rfl⟩ := hrel
        by_cases hlt : k < L
        · have hck := HC.out k hlt
          have hbk := Plain.be_byte v L k
          have hpk := Plain.pre_bd v L k h1 h2 hlt hhi
          have HS : Hid _ := Plain.pre_step v L k hlt
          generalize (Plain.be L v).getD k 0 = y at hck hbk HS
          generalize Plain.pre v L k = P at hpk HS
          go_wp2_with fail
          go_round
          case rel => exact ⟨k + 1, by omega, by omega, by go_num, congrArg (Value.int .i64) ((or_join P y hpk.1 hpk.2 hbk.1 hbk.2).trans HS.out.symm)⟩
          case measure => simp [intOf]; omega
        · obtain rfl : k = L := by omega
          rw [Plain.pre_end]
          go_wp2_with fail
          go_ret
          exact ⟨congrArg (fun b => Ending.returned (.bool b)) (by simp), below_drewN (hb1.trans (hb2.mono hb1.size)) q⟩
  · have hz := zzBytes18 ao len cap v w hl
    rw [decide_eq_false hb] at hz
    have HZ : Hid _ := hz
    clear hz hr hlen hnil
    go_enter Try.func6, Try.ntmps6
    go_wp2_with fail
    refine Calls.mono HZ.out ?_
    rintro e _ ⟨rfl, rfl⟩
    go_wp2
    go_ret
    exact ⟨rfl, Below.refl _ _⟩

end Go.Proofs.Qxb6602625a
