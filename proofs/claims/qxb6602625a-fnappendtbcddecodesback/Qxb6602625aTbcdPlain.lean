/-
  THE PLAIN FUNCTIONS OF TBCD: no Go in sight. f k: the k-th character of a string of n digits.
-/
namespace Go.Proofs.Qxb6602625a.Plain

/-- The k-th octet. -/
def oct (f : Nat → Int) (n k : Nat) : Int := if 2 * k + 1 < n then (f (2 * k + 1) - 48) * 16 + (f (2 * k) - 48) else 240 + (f (2 * k) - 48)

/-- The first k octets. -/
def tb (f : Nat → Int) (n k : Nat) : List Int := (List.range k).map (oct f n)

/-- The first k characters. -/
def chars (f : Nat → Int) (k : Nat) : List Int := (List.range k).map f

theorem tb_len (f : Nat → Int) (n k : Nat) : (tb f n k).length = k := by simp [tb]
theorem tb_succ (f : Nat → Int) (n k : Nat) : tb f n (k + 1) = tb f n k ++ [oct f n k] := by simp [tb, List.range_succ]
theorem tb_getD (f : Nat → Int) (n m k : Nat) (h : k < m) : (tb f n m).getD k 0 = oct f n k := by simp [tb, h]
theorem chars_len (f : Nat → Int) (k : Nat) : (chars f k).length = k := by simp [chars]
theorem chars_succ (f : Nat → Int) (k : Nat) : chars f (k + 1) = chars f k ++ [f k] := by simp [chars, List.range_succ]
theorem chars_getD (f : Nat → Int) (m k : Nat) (h : k < m) : (chars f m).getD k 0 = f k := by simp [chars, h]

theorem oct_two (f : Nat → Int) (n k : Nat) (h : 2 * k + 1 < n) : oct f n k = (f (2 * k + 1) - 48) * 16 + (f (2 * k) - 48) := if_pos h
theorem oct_one (f : Nat → Int) (n k : Nat) (h : ¬ 2 * k + 1 < n) : oct f n k = 240 + (f (2 * k) - 48) := if_neg h

/-- An octet of two digits, taken apart. -/
theorem oct_two_parts (f : Nat → Int) (n k : Nat) (h : 2 * k + 1 < n) (a : 48 ≤ f (2 * k) ∧ f (2 * k) ≤ 57) (b : 48 ≤ f (2 * k + 1) ∧ f (2 * k + 1) ≤ 57) :
    0 ≤ oct f n k ∧ oct f n k ≤ 255 ∧ oct f n k % 16 = f (2 * k) - 48 ∧ oct f n k / 16 = f (2 * k + 1) - 48 := by
  rw [oct_two f n k h]; omega
/-- An octet of one digit. -/
theorem oct_one_parts (f : Nat → Int) (n k : Nat) (h : ¬ 2 * k + 1 < n) (a : 48 ≤ f (2 * k) ∧ f (2 * k) ≤ 57) :
    0 ≤ oct f n k ∧ oct f n k ≤ 255 ∧ oct f n k % 16 = f (2 * k) - 48 ∧ oct f n k / 16 = 15 := by
  rw [oct_one f n k h]; omega
theorem chars_two (f : Nat → Int) (k : Nat) : chars f (2 * (k + 1)) = (chars f (2 * k) ++ [f (2 * k)]) ++ [f (2 * k + 1)] := by
  rw [show 2 * (k + 1) = 2 * k + 1 + 1 by omega, chars_succ, chars_succ]

end Go.Proofs.Qxb6602625a.Plain
