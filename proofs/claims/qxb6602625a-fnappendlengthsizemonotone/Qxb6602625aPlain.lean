/-
  THE PLAIN FUNCTIONS: no Go in sight. 'octs': the minimal big-endian octets of a number. 'be': its last k octets.
-/
namespace Go.Proofs.Qxb6602625a.Plain

/-- The minimal big-endian octets of n (nothing for 0), at most f of them. -/
def octs : Nat → Int → List Int
  | 0, _ => []
  | f + 1, n => if 0 < n then octs f (n / 256) ++ [n % 256] else []

/-- The definite length's encoding. -/
def encLen (n : Int) : List Int := if n < 128 then [n] else (128 + ((octs 8 n).length : Int)) :: octs 8 n

theorem octs_zero (f : Nat) (n : Int) (h : n ≤ 0) : octs f n = [] := by
  cases f with
  | zero => rfl
  | succ f => simp only [octs]; rw [if_neg (by omega)]

theorem octs_pos (f : Nat) (n : Int) (h : 0 < n) : octs (f + 1) n = octs f (n / 256) ++ [n % 256] := by
  simp only [octs]; rw [if_pos h]

theorem octs_len_le (f : Nat) : ∀ n, (octs f n).length ≤ f := by
  induction f with
  | zero => intro n; simp [octs]
  | succ f ih =>
    intro n
    simp only [octs]
    split
    · simp; exact ih _
    · simp

theorem octs_len_pos (f : Nat) (n : Int) (h : 0 < n) : 1 ≤ (octs (f + 1) n).length := by
  rw [octs_pos f n h]; simp

theorem octs_len_mono (f : Nat) : ∀ m n : Int, m ≤ n → (octs f m).length ≤ (octs f n).length := by
  induction f with
  | zero => intro m n _; simp [octs]
  | succ f ih =>
    intro m n h
    by_cases hm : 0 < m
    · rw [octs_pos f m hm, octs_pos f n (by omega)]
      simp
      exact ih _ _ (by omega)
    · rw [octs_zero _ m (by omega)]; simp

theorem octs_byte (f : Nat) : ∀ n, ∀ x ∈ octs f n, 0 ≤ x ∧ x ≤ 255 := by
  induction f with
  | zero => intro n x hx; simp [octs] at hx
  | succ f ih =>
    intro n x hx
    simp only [octs] at hx
    split at hx
    · rw [List.mem_append] at hx
      rcases hx with hx | hx
      · exact ih _ x hx
      · simp at hx; subst hx; omega
    · simp at hx

theorem encLen_short (n : Int) (h : n < 128) : encLen n = [n] := if_pos h
theorem encLen_long (n : Int) (h : ¬ n < 128) : encLen n = (128 + ((octs 8 n).length : Int)) :: octs 8 n := if_neg h

/-- THE LAW OF SIZES. -/
theorem encLen_mono (m n : Int) (h : m ≤ n) : 1 ≤ (encLen m).length ∧ (encLen m).length ≤ (encLen n).length ∧ (encLen n).length ≤ 9 := by
  have hl := octs_len_le 8 n
  by_cases hn : n < 128
  · rw [encLen_short n hn, encLen_short m (by omega)]; simp
  · rw [encLen_long n hn]
    by_cases hm : m < 128
    · rw [encLen_short m hm]; simp; omega
    · rw [encLen_long m hm]
      have := octs_len_mono 8 m n h
      simp; omega

theorem pow_step (m : Int) (k : Nat) (h : m < 256 ^ (k + 1)) : m / 256 < 256 ^ k := by
  rw [Int.pow_succ] at h
  omega
/-- One round of the loop that lays the octets. -/
theorem octs_round (n m : Int) (k : Nat) (acc : List Int) (hm : 0 < m) (h1 : m < 256 ^ k) (h2 : octs 8 n = octs k m ++ acc) :
    ∃ j, k = j + 1 ∧ m / 256 < 256 ^ j ∧ octs 8 n = octs j (m / 256) ++ ([m % 256] ++ acc) := by
  cases k with
  | zero => simp at h1; omega
  | succ j => exact ⟨j, rfl, pow_step m j h1, by rw [h2, octs_pos j m hm]; simp⟩
theorem octs_done (n m : Int) (k : Nat) (acc : List Int) (hm : m ≤ 0) (h2 : octs 8 n = octs k m ++ acc) : octs 8 n = acc := by
  rw [h2, octs_zero k m hm]; rfl

end Go.Proofs.Qxb6602625a.Plain
