/-
  THE PLAIN FUNCTIONS: no Go in sight. 'octs': the minimal big-endian octets of a number. 'be': its last k octets.
-/
namespace Go.Proofs.Qxb6602625a.Plain

/-- The minimal big-endian octets of n (nothing for 0), at most f of them. -/
def octs : Nat → Int → List Int
  | 0, _ => []
  | f + 1, n => if 0 < n then octs f (n / 256) ++ [n % 256] else []

/-- The definite length's encoding. -/
def encLen (n : Int) : List Int := if n < 128 then [n] else (128 + ((octs 8 n).length : Int)) :: octs 8 n

theorem octs_zero (f : Nat) (n : Int) (h : n ≤ 0) : octs f n = [] := by
  cases f with
  | zero => rfl
  | succ f => simp only [octs]; rw [if_neg (by omega)]

theorem octs_pos (f : Nat) (n : Int) (h : 0 < n) : octs (f + 1) n = octs f (n / 256) ++ [n % 256] := by
  simp only [octs]; rw [if_pos h]

theorem octs_len_le (f : Nat) : ∀ n, (octs f n).length ≤ f := by
  induction f with
  | zero => intro n; simp [octs]
  | succ f ih =>
    intro n
    simp only [octs]
    split
    · simp; exact ih _
    · simp

theorem octs_len_pos (f : Nat) (n : Int) (h : 0 < n) : 1 ≤ (octs (f + 1) n).length := by
  rw [octs_pos f n h]; simp

theorem octs_len_mono (f : Nat) : ∀ m n : Int, m ≤ n → (octs f m).length ≤ (octs f n).length := by
  induction f with
  | zero => intro m n _; simp [octs]
  | succ f ih =>
    intro m n h
    by_cases hm : 0 < m
    · rw [octs_pos f m hm, octs_pos f n (by omega)]
      simp
      exact ih _ _ (by omega)
    · rw [octs_zero _ m (by omega)]; simp

theorem octs_byte (f : Nat) : ∀ n, ∀ x ∈ octs f n, 0 ≤ x ∧ x ≤ 255 := by
  induction f with
  | zero => intro n x hx; simp [octs] at hx
  | succ f ih =>
    intro n x hx
    simp only [octs] at hx
    split at hx
    · rw [List.mem_append] at hx
      rcases hx with hx | hx
      · exact ih _ x hx
      · simp at hx; subst hx; omega
    · simp at hx

theorem encLen_short (n : Int) (h : n < 128) : encLen n = [n] := if_pos h
theorem encLen_long (n : Int) (h : ¬ n < 128) : encLen n = (128 + ((octs 8 n).length : Int)) :: octs 8 n := if_neg h

/-- THE LAW OF SIZES. -/
theorem encLen_mono (m n : Int) (h : m ≤ n) : 1 ≤ (encLen m).length ∧ (encLen m).length ≤ (encLen n).length ∧ (encLen n).length ≤ 9 := by
  have hl := octs_len_le 8 n
  by_cases hn : n < 128
  · rw [encLen_short n hn, encLen_short m (by omega)]; simp
  · rw [encLen_long n hn]
    by_cases hm : m < 128
    · rw [encLen_short m hm]; simp; omega
    · rw [encLen_long m hm]
      have := octs_len_mono 8 m n h
      simp; omega

theorem pow_step (m : Int) (k : Nat) (h : m < 256 ^ (k + 1)) : m / 256 < 256 ^ k := by
  rw [Int.pow_succ] at h
  omega
/-- One round of the loop that lays the octets. -/
theorem octs_round (n m : Int) (k : Nat) (acc : List Int) (hm : 0 < m) (h1 : m < 256 ^ k) (h2 : octs 8 n = octs k m ++ acc) :
    ∃ j, k = j + 1 ∧ m / 256 < 256 ^ j ∧ octs 8 n = octs j (m / 256) ++ ([m % 256] ++ acc) := by
  cases k with
  | zero => simp at h1; omega
  | succ j => exact ⟨j, rfl, pow_step m j h1, by rw [h2, octs_pos j m hm]; simp⟩
theorem octs_done (n m : Int) (k : Nat) (acc : List Int) (hm : m ≤ 0) (h2 : octs 8 n = octs k m ++ acc) : octs 8 n = acc := by
  rw [h2, octs_zero k m hm]; rfl

/-! ### INTEGER contents -/

/-- The last k octets of v, the highest first. -/
def be : Nat → Int → List Int
  | 0, _ => []
  | k + 1, v => (v / 2 ^ (8 * k) % 256) :: be k v

/-- v fits k octets of two's complement. -/
def fits (k : Nat) (v : Int) : Prop := v / 2 ^ (8 * k - 1) = 0 ∨ v / 2 ^ (8 * k - 1) = -1

/-- k is the number of octets that appendInteger lays. -/
structure IsLen (v : Int) (k : Nat) : Prop where
  lo : 1 ≤ k
  hi : k ≤ 8
  fit : k < 8 → fits k v
  least : ∀ j, 1 ≤ j → j < k → ¬ fits j v

theorem be_len (k : Nat) (v : Int) : (be k v).length = k := by
  induction k with
  | zero => rfl
  | succ k ih => simp [be, ih]

theorem be_round (v : Int) (k g : Nat) (ys : List Int) (hg : 1 ≤ g) (h : be k v = ys ++ be g v) : be k v = (ys ++ [v / 2 ^ (8 * (g - 1)) % 256]) ++ be (g - 1) v := by
  obtain ⟨j, rfl⟩ : ∃ j, g = j + 1 := ⟨g - 1, by omega⟩
  rw [h]
  simp [be]

theorem div_shift (n : Int) (k : Nat) : n / 2 ^ (8 * (k + 1)) = n / 256 / 2 ^ (8 * k) := by
  rw [Int.ediv_ediv_of_nonneg (by omega), show (256 : Int) = 2 ^ 8 by rfl, ← Int.pow_add, show 8 + 8 * k = 8 * (k + 1) by omega]

theorem be_snoc (k : Nat) (n : Int) : be (k + 1) n = be k (n / 256) ++ [n % 256] := by
  induction k with
  | zero => simp [be]
  | succ k ih =>
    show (n / 2 ^ (8 * (k + 1)) % 256) :: be (k + 1) n = _
    rw [ih, div_shift]
    rfl

theorem octs_be (f : Nat) : ∀ (k : Nat) (n : Int), 1 ≤ k → k ≤ f → 2 ^ (8 * (k - 1)) ≤ n → n < 2 ^ (8 * k) → octs f n = be k n := by
  induction f with
  | zero => intro k n h1 h2; omega
  | succ f ih =>
    intro k n h1 h2 h3 h4
    have hp : (0 : Int) < 2 ^ (8 * (k - 1)) := Int.pow_pos (by omega)
    rw [octs_pos f n (by omega)]
    obtain ⟨j, rfl⟩ : ∃ j, k = j + 1 := ⟨k - 1, by omega⟩
    rw [be_snoc]
    have e2 : (2 : Int) ^ (8 * (j + 1)) = 2 ^ (8 * j) * 256 := by rw [Nat.mul_add, Int.pow_add]; rfl
    rw [e2] at h4
    cases j with
    | zero =>
      simp at h4
      rw [octs_zero f (n / 256) (by omega)]
      rfl
    | succ i =>
      have e3 : (2 : Int) ^ (8 * (i + 1 + 1 - 1)) = 2 ^ (8 * i) * 256 := by rw [show 8 * (i + 1 + 1 - 1) = 8 * i + 8 by omega, Int.pow_add]; rfl
      rw [e3] at h3
      rw [ih (i + 1) (n / 256) (by omega) (by omega) (by rw [show 8 * (i + 1 - 1) = 8 * i by omega]; omega) (by omega)]

theorem fits_pos {k : Nat} {n : Int} (h0 : 0 ≤ n) : fits k n ↔ n < 2 ^ (8 * k - 1) := by
  have hp : (0 : Int) < 2 ^ (8 * k - 1) := Int.pow_pos (by omega)
  unfold fits
  constructor
  · rintro (h | h)
    · have := Int.lt_mul_of_ediv_lt hp (show n / 2 ^ (8 * k - 1) < 1 by omega)
      omega
    · have := Int.ediv_nonneg h0 (Int.le_of_lt hp)
      omega
  · intro h
    exact .inl (Int.ediv_eq_zero_of_lt h0 h)

/-- THE PLAIN LAW of FnLengthOctetsAgreeWithInteger: what is left of the INTEGER's content once a leading zero octet is dropped is what appendLength lays behind its first octet. -/
theorem agree (n : Int) (L : Nat) (h1 : 128 ≤ n) (h2 : n ≤ 9223372036854775807) (hL : IsLen n L) :
    2 ≤ L ∧ (be L n).length = L ∧ ((n / 2 ^ (8 * (L - 1)) % 256 = 0 ∧ be (L - 1) n = octs 8 n) ∨ (n / 2 ^ (8 * (L - 1)) % 256 ≠ 0 ∧ be L n = octs 8 n)) := by
  have hup : n < 2 ^ (8 * L - 1) := by
    by_cases h8 : L < 8
    · exact (fits_pos (by omega)).1 (hL.fit h8)
    · obtain rfl : L = 8 := by have := hL.hi; omega
      show n < 9223372036854775808
      omega
  have hL2 : 2 ≤ L := by
    have := hL.lo
    by_cases e : L = 1
    · subst e; simp at hup; omega
    · omega
  have hlo : ¬ n < 2 ^ (8 * (L - 1) - 1) := fun h => hL.least (L - 1) (by omega) (by omega) ((fits_pos (by omega)).2 h)
  refine ⟨hL2, be_len _ _, ?_⟩
  have hL8 := hL.hi
  have hcase : L = 2 ∨ L = 3 ∨ L = 4 ∨ L = 5 ∨ L = 6 ∨ L = 7 ∨ L = 8 := by omega
  rcases hcase with rfl | rfl | rfl | rfl | rfl | rfl | rfl
  all_goals
    simp only [Nat.reduceMul, Nat.reduceSub, Int.reducePow] at hup hlo ⊢
  · by_cases e : n / 256 % 256 = 0
    · exact .inl ⟨e, (octs_be 8 1 n (by omega) (by omega) (by simp; omega) (by simp; omega)).symm⟩
    · exact .inr ⟨e, (octs_be 8 2 n (by omega) (by omega) (by simp; omega) (by simp; omega)).symm⟩
  · by_cases e : n / 65536 % 256 = 0
    · exact .inl ⟨e, (octs_be 8 2 n (by omega) (by omega) (by simp; omega) (by simp; omega)).symm⟩
    · exact .inr ⟨e, (octs_be 8 3 n (by omega) (by omega) (by simp; omega) (by simp; omega)).symm⟩
  · by_cases e : n / 16777216 % 256 = 0
    · exact .inl ⟨e, (octs_be 8 3 n (by omega) (by omega) (by simp; omega) (by simp; omega)).symm⟩
    · exact .inr ⟨e, (octs_be 8 4 n (by omega) (by omega) (by simp; omega) (by simp; omega)).symm⟩
  · by_cases e : n / 4294967296 % 256 = 0
    · exact .inl ⟨e, (octs_be 8 4 n (by omega) (by omega) (by simp; omega) (by simp; omega)).symm⟩
    · exact .inr ⟨e, (octs_be 8 5 n (by omega) (by omega) (by simp; omega) (by simp; omega)).symm⟩
  · by_cases e : n / 1099511627776 % 256 = 0
    · exact .inl ⟨e, (octs_be 8 5 n (by omega) (by omega) (by simp; omega) (by simp; omega)).symm⟩
    · exact .inr ⟨e, (octs_be 8 6 n (by omega) (by omega) (by simp; omega) (by simp; omega)).symm⟩
  · by_cases e : n / 281474976710656 % 256 = 0
    · exact .inl ⟨e, (octs_be 8 6 n (by omega) (by omega) (by simp; omega) (by simp; omega)).symm⟩
    · exact .inr ⟨e, (octs_be 8 7 n (by omega) (by omega) (by simp; omega) (by simp; omega)).symm⟩
  · by_cases e : n / 72057594037927936 % 256 = 0
    · exact .inl ⟨e, (octs_be 8 7 n (by omega) (by omega) (by simp; omega) (by simp; omega)).symm⟩
    · exact .inr ⟨e, (octs_be 8 8 n (by omega) (by omega) (by simp; omega) (by simp; omega)).symm⟩

/-! ### INTEGER contents, read back -/

/-- What the first k of the L octets of v say. -/
def pre (v : Int) (L k : Nat) : Int := v / 2 ^ (8 * (L - k))

theorem be_getD (v : Int) (L : Nat) : ∀ k, k < L → (be L v).getD k 0 = v / 2 ^ (8 * (L - 1 - k)) % 256 := by
  induction L with
  | zero => intro k h; omega
  | succ L ih =>
    intro k h
    cases k with
    | zero => simp [be]
    | succ k =>
      have := ih k (by omega)
      rw [show L + 1 - 1 - (k + 1) = L - 1 - k by omega, ← this]
      simp [be]

theorem pre_step (v : Int) (L k : Nat) (h : k < L) : pre v L (k + 1) = pre v L k * 256 + (be L v).getD k 0 := by
  rw [be_getD v L k h]
  unfold pre
  rw [show L - k = (L - 1 - k) + 1 by omega, show L - (k + 1) = L - 1 - k by omega]
  have : v / 2 ^ (8 * (L - 1 - k + 1)) = v / 2 ^ (8 * (L - 1 - k)) / 256 := by
    rw [Nat.mul_add, Int.pow_add, ← Int.ediv_ediv_of_nonneg (Int.le_of_lt (Int.pow_pos (by omega)))]; rfl
  rw [this]
  omega

theorem pre_end (v : Int) (L : Nat) : pre v L L = v := by unfold pre; simp

theorem pre_bd (v : Int) (L k : Nat) (h1 : -9223372036854775808 ≤ v) (h2 : v ≤ 9223372036854775807) (hk : k < L) (hL : L ≤ 8) : -36028797018963968 ≤ pre v L k ∧ pre v L k ≤ 36028797018963967 := by
  unfold pre
  have hc : L - k = 1 ∨ L - k = 2 ∨ L - k = 3 ∨ L - k = 4 ∨ L - k = 5 ∨ L - k = 6 ∨ L - k = 7 ∨ L - k = 8 := by omega
  rcases hc with e | e | e | e | e | e | e | e <;> rw [e] <;> simp only [Nat.reduceMul, Int.reducePow] <;> omega

theorem be_byte (v : Int) (L : Nat) : ∀ k, 0 ≤ (be L v).getD k 0 ∧ (be L v).getD k 0 ≤ 255 := by
  intro k
  by_cases h : k < L
  · rw [be_getD v L k h]; omega
  · have : (be L v)[k]? = none := List.getElem?_eq_none (by rw [be_len]; omega)
    simp [this]

/-- The first octet, read as a signed number. -/
theorem pre_first (v : Int) (L : Nat) (h1 : -9223372036854775808 ≤ v) (h2 : v ≤ 9223372036854775807) (hL : IsLen v L) : -128 ≤ pre v L 1 ∧ pre v L 1 ≤ 127 ∧ (be L v).getD 0 0 = pre v L 1 % 256 := by
  have hlo := hL.lo
  have hhi := hL.hi
  refine ⟨?_, ?_, by rw [be_getD v L 0 (by omega)]; rfl⟩
  all_goals
    have hf := hL.fit
    unfold fits at hf
    unfold pre
    have hc : L = 1 ∨ L = 2 ∨ L = 3 ∨ L = 4 ∨ L = 5 ∨ L = 6 ∨ L = 7 ∨ L = 8 := by omega
    rcases hc with rfl | rfl | rfl | rfl | rfl | rfl | rfl | rfl <;> simp only [Nat.reduceMul, Nat.reduceSub, Int.reducePow, Nat.reduceLT, true_implies, false_implies] at hf ⊢ <;> omega

/-- No octet is redundant. -/
theorem be_minimal (v : Int) (L : Nat) (h1 : -9223372036854775808 ≤ v) (h2 : v ≤ 9223372036854775807) (hL : IsLen v L) (h : 1 < L) :
    ¬ ((be L v).getD 0 0 = 0 ∧ (be L v).getD 1 0 < 128) ∧ ¬ ((be L v).getD 0 0 = 255 ∧ 128 ≤ (be L v).getD 1 0) := by
  have hhi := hL.hi
  have hp := pre_first v L h1 h2 hL
  have hs := pre_step v L 1 h
  have hb := be_byte v L 1
  have hn := hL.least (L - 1) (by omega) (by omega)
  generalize (be L v).getD 0 0 = x at *
  generalize (be L v).getD 1 0 = y at *
  have e : pre v L 2 / 128 = v / 2 ^ (8 * (L - 1) - 1) := by
    unfold pre
    rw [Int.ediv_ediv_of_nonneg (Int.le_of_lt (Int.pow_pos (by omega))), show (128 : Int) = 2 ^ 7 by rfl, ← Int.pow_add, show 8 * (L - 2) + 7 = 8 * (L - 1) - 1 by omega]
  unfold fits at hn
  rw [← e, hs] at hn
  constructor <;> omega

end Go.Proofs.Qxb6602625a.Plain
