/-
  THE PLAIN LAWS OF THE LENGTH's DECODING: no Go in sight.
-/
import Derived.Test.Qxb6602625aPlain
namespace Go.Proofs.Qxb6602625a.Plain

theorem octs_is_be (n : Int) (h1 : 1 ≤ n) (h2 : n ≤ 9223372036854775807) :
    ∃ k, 1 ≤ k ∧ k ≤ 8 ∧ octs 8 n = be k n ∧ (octs 8 n).length = k ∧ pre n k 0 = 0 ∧ 1 ≤ (be k n).getD 0 0 := by
  have main : ∀ k, 1 ≤ k → k ≤ 8 → 2 ^ (8 * (k - 1)) ≤ n → n < 2 ^ (8 * k) → 1 ≤ n / 2 ^ (8 * (k - 1)) % 256 → ∃ k, 1 ≤ k ∧ k ≤ 8 ∧ octs 8 n = be k n ∧ (octs 8 n).length = k ∧ pre n k 0 = 0 ∧ 1 ≤ (be k n).getD 0 0 := by
    intro k a b c d e
    have ho := octs_be 8 k n a b c d
    refine ⟨k, a, b, ho, by rw [ho, be_len], ?_, ?_⟩
    · unfold pre
      exact Int.ediv_eq_zero_of_lt (by omega) d
    · rw [be_getD n k 0 (by omega)]; exact e
  by_cases c1 : n < 256
  · exact main 1 (by omega) (by omega) (by simp; omega) (by simp; omega) (by simp; omega)
  by_cases c2 : n < 65536
  · exact main 2 (by omega) (by omega) (by simp; omega) (by simp; omega) (by simp; omega)
  by_cases c3 : n < 16777216
  · exact main 3 (by omega) (by omega) (by simp; omega) (by simp; omega) (by simp; omega)
  by_cases c4 : n < 4294967296
  · exact main 4 (by omega) (by omega) (by simp; omega) (by simp; omega) (by simp; omega)
  by_cases c5 : n < 1099511627776
  · exact main 5 (by omega) (by omega) (by simp; omega) (by simp; omega) (by simp; omega)
  by_cases c6 : n < 281474976710656
  · exact main 6 (by omega) (by omega) (by simp; omega) (by simp; omega) (by simp; omega)
  by_cases c7 : n < 72057594037927936
  · exact main 7 (by omega) (by omega) (by simp; omega) (by simp; omega) (by simp; omega)
  · exact main 8 (by omega) (by omega) (by simp; omega) (by simp; omega) (by simp; omega)

theorem pre_nonneg (v : Int) (L k : Nat) (h : 0 ≤ v) : 0 ≤ pre v L k := by
  unfold pre
  exact Int.ediv_nonneg h (Int.le_of_lt (Int.pow_pos (by omega)))

end Go.Proofs.Qxb6602625a.Plain
