/-
  THE PLAIN FUNCTIONS: searching and replacing in lists of bytes. No Go in sight.
-/
import Derived.Lib.Strings
namespace Go.Proofs.Qxb6602689a.Plain

/-- The first place at or behind i at which sub stands; l: what lies from place i on; -1: nowhere. -/
def idx : List UInt8 → List UInt8 → Nat → Int
  | [], sub, i => if sub.isEmpty then (i : Int) else -1
  | c :: r, sub, i => if sub.isPrefixOf (c :: r) then (i : Int) else idx r sub (i + 1)

/-- Each 'old' that does not overlap the one before, left to right, turned into 'nw'; g: no more than so many. -/
def rep (s old nw : List UInt8) : Nat → Nat → List UInt8 → List UInt8
  | 0, _, out => out
  | g + 1, i, out => if idx (s.drop i) old i < 0 then out ++ s.drop i
      else rep s old nw g ((idx (s.drop i) old i).toNat + old.length) (out ++ ((s.drop i).take ((idx (s.drop i) old i).toNat - i) ++ nw))

theorem idx_hit (l sub : List UInt8) (i : Nat) (h : sub.isPrefixOf l = true) : idx l sub i = (i : Int) := by
  cases l with
  | nil => cases sub with
    | nil => rfl
    | cons a b => simp [List.isPrefixOf] at h
  | cons c r => simp only [idx]; rw [if_pos h]
theorem idx_miss (c : UInt8) (r sub : List UInt8) (i : Nat) (h : sub.isPrefixOf (c :: r) = false) : idx (c :: r) sub i = idx r sub (i + 1) := by
  simp only [idx]; rw [h]; rfl
theorem idx_short (l sub : List UInt8) : ∀ i, l.length < sub.length → idx l sub i = -1 := by
  induction l with
  | nil =>
    intro i h
    cases sub with
    | nil => simp at h
    | cons a b => rfl
  | cons c r ih =>
    intro i h
    have hp : sub.isPrefixOf (c :: r) = false := by
      rw [Bool.eq_false_iff]
      intro hp
      have := (List.isPrefixOf_iff_prefix.1 hp).length_le
      omega
    rw [idx_miss c r sub i hp]
    exact ih _ (by simp at h; omega)
/-- Where it is found it lies within. -/
theorem idx_bd (sub : List UInt8) (l : List UInt8) : ∀ i, idx l sub i < 0 ∨ ((i : Int) ≤ idx l sub i ∧ idx l sub i + sub.length ≤ i + l.length) := by
  induction l with
  | nil =>
    intro i
    simp only [idx]
    split
    · right; cases sub <;> simp_all
    · left; omega
  | cons c r ih =>
    intro i
    simp only [idx]
    split
    · rename_i h
      have := (List.isPrefixOf_iff_prefix.1 h).length_le
      right; simp at this ⊢; omega
    · rcases ih (i + 1) with h | h
      · exact .inl h
      · right; simp at h ⊢; omega

/-- A piece of a string stands at place k just where the rest from k on begins with it. -/
theorem piece_iff (l sub : List UInt8) (k : Nat) : ((l.drop k).take (k + sub.length - k) == sub) = sub.isPrefixOf (l.drop k) := by
  rw [Bool.eq_iff_iff, beq_iff_eq, List.isPrefixOf_iff_prefix, List.prefix_iff_eq_take, Nat.add_sub_cancel_left]
  exact eq_comm

theorem drop_step (l sub : List UInt8) (k : Nat) (h : k < l.length) (hm : sub.isPrefixOf (l.drop k) = false) : idx (l.drop k) sub k = idx (l.drop (k + 1)) sub (k + 1) := by
  rw [List.drop_eq_getElem_cons h] at hm ⊢
  exact idx_miss _ _ _ _ hm

end Go.Proofs.Qxb6602689a.Plain
