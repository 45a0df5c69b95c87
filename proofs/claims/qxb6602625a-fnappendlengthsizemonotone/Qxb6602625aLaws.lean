/-
  SMALL LAWS FOR THIS SEAT: append on slices of bytes (type 22, elements of type 5), told by lists of numbers.
-/
import Derived.Test.Qxb6602625aRows
import Derived.WalkKit
import Derived.WalkSpells
import Derived.WalkLawsBesides
import Derived.Laws.AppendOwnNone
import Derived.Deep.Draws
namespace Go.Proofs.Qxb6602625a
open Go.RowKit

theorem Try.info5 : (Try.prog.info? 5).map (fun i => (i.zero, i.size, i.bytes)) = some (some (.int .u8 0), 1, 1) := by kernel_rfl

/-- The numbers as cells. -/
def B8 (xs : List Int) : List Value := xs.map (Value.int .u8)
theorem B8_len (xs : List Int) : (B8 xs).length = xs.length := by simp [B8]
theorem B8_append (xs ys : List Int) : B8 (xs ++ ys) = B8 xs ++ B8 ys := by simp [B8]
theorem B8_one (xs : List Int) : ∀ u ∈ B8 xs, u.oneCell' = true := by
  intro u hu
  simp only [B8, List.mem_map] at hu
  obtain ⟨x, _, rfl⟩ := hu
  rfl
theorem B8_get {xs : List Int} {j : Nat} {u : Value} (h : (B8 xs)[j]? = some u) : j < xs.length ∧ u = .int .u8 (xs.getD j 0) := by
  simp only [B8, List.getElem?_map, Option.map_eq_some_iff] at h
  obtain ⟨x, hx, rfl⟩ := h
  obtain ⟨hj, rfl⟩ := List.getElem?_eq_some_iff.1 hx
  exact ⟨hj, by simp [hj]⟩
theorem B8_at {xs : List Int} {j : Nat} (h : j < xs.length) : (B8 xs)[j]? = some (.int .u8 (xs.getD j 0)) := by
  simp [B8, List.getElem?_eq_getElem h]

/-- A slice of bytes whose elements read as the numbers xs: its address, the cells. -/
structure Rd (w : World) (ao : Option Addr) (xs : List Int) : Prop where
  bare : ao = .none → xs = []
  cells : ∀ b, ao = some b → ∀ j, j < xs.length → w.cell? (b.add j) = some (.int .u8 (xs.getD j 0))

theorem Rd.nil (w : World) : Rd w none [] := ⟨fun _ => rfl, fun _ h => (by cases h)⟩
theorem Rd.alloc {w : World} {ao : Option Addr} {xs : List Int} (h : Rd w ao xs) (o : Obj) : Rd (w.alloc o) ao xs :=
  ⟨h.bare, fun b hb j hj => by
    have := h.cells b hb j hj
    rw [World.cell?_alloc_lt _ _ _ (World.block_lt_of_cell? _ _ this)]; exact this⟩
/-- What lies below B is still read behind a step that has turned nothing below B. -/
theorem Rd.below {w w' : World} {ao : Option Addr} {xs : List Int} (h : Rd w ao xs) (hb : Below w.heap.size w w') : Rd w' ao xs :=
  ⟨h.bare, fun b hbb j hj => by
    have := h.cells b hbb j hj
    rw [hb.cell (World.block_lt_of_cell? _ _ this)]; exact this⟩
theorem Rd.drewN {w : World} {ao : Option Addr} {xs : List Int} (h : Rd w ao xs) (n : Nat) : Rd (w.drewN n) ao xs :=
  ⟨h.bare, fun b hb j hj => by rw [World.cell?_drewN]; exact h.cells b hb j hj⟩
theorem Rd.cells' {w : World} {ao : Option Addr} {xs : List Int} (h : Rd w ao xs) : ∀ b, ao = some b → ∀ j u, (B8 xs)[j]? = some u → w.cell? (b.add j) = some u :=
  fun b hb j u hj => by obtain ⟨h1, rfl⟩ := B8_get hj; exact h.cells b hb j h1
/-- What is owned is read. -/
theorem Rd.of_owns {w : World} {base : Nat} {v : Value} {n : Nat} {xs : List Int} (h : w.ownsRow base 5 1 v n (B8 xs)) : ∃ ao cap, v = .slice ao xs.length cap ∧ Rd w ao xs ∧ n = xs.length ∧ (ao = none → cap = 0) ∧ xs.length ≤ cap := by
  have hc := fun g => h.cells (g := g)
  obtain ⟨h1, h2⟩ := h
  have hn : n = xs.length := by rw [B8_len] at h1; omega
  subst hn
  rcases h2 with ⟨rfl, h0⟩ | ⟨g, cap, cur, rfl, hg, hh, hcap, hm, hsz, htk⟩
  · have : xs = [] := List.eq_nil_of_length_eq_zero h0
    subst this
    exact ⟨none, 0, rfl, Rd.nil w, rfl, fun _ => rfl, Nat.le_refl _⟩
  · exact ⟨some ⟨g, 0, none⟩, cap, rfl, ⟨(fun h => (by cases h)), fun b hb j hj => (by cases hb; exact hc g rfl j _ (B8_at hj))⟩, rfl, (fun h => (by cases h)), hcap⟩

/-- Its address and its cells, written out. -/
theorem Rd.at {w : World} {ao : Option Addr} {xs : List Int} (h : Rd w ao xs) (hp : 0 < xs.length) : ∃ b off, ao = some ⟨b, off, none⟩ ∧ ∀ j, j < xs.length → w.cell? ⟨b, off + j, none⟩ = some (.int .u8 (xs.getD j 0)) := by
  cases ao with
  | none => have := h.bare rfl; subst this; simp at hp
  | some a =>
    have hc := h.cells a rfl
    obtain ⟨b, off, spot⟩ := a
    have hspot : spot = none := by simpa [Addr.add] using World.cell?_spot (hc 0 hp)
    subst hspot
    exact ⟨b, off, rfl, fun j hj => by have := hc j hj; rwa [Addr.add_lit] at this⟩
/-- What lies from place n on. -/
theorem Rd.drop {w : World} {b off : Nat} {xs : List Int} (h : Rd w (some ⟨b, off, none⟩) xs) (n : Nat) : Rd w (some ⟨b, off + n, none⟩) (xs.drop n) :=
  ⟨(fun h => (by cases h)), fun c hc j hj => (by
    cases hc
    have hj' : n + j < xs.length := by simp at hj; omega
    have := h.cells _ rfl (n + j) hj'
    rw [Addr.add_lit] at this ⊢
    rw [Nat.add_assoc, this]
    simp [List.getElem?_drop])⟩

/-- APPEND ONTO A SLICE WITHOUT SPARE ROOM, of at least one element: a new array. -/
theorem app_tight {w : World} {ops : Array Oper} {rest : List Oper} {o : Oper} {a : Act} {Q : Exit → Act → World → Prop}
    (hg : o.guard = none) (s x : Operand) (hop : o.op = Op.call { callee := Callee.builtin Builtin.append, args := #[s, x], argTypes := #[22, 22] })
    {ao : Option Addr} {xs : List Int} {len : Nat} (hr : Rd w ao xs) (hlen : xs.length = len) (hs : a.eval s = .slice ao len len)
    {ad : Addr} {m c : Nat} {ys : List Int} (hx : a.eval x = .slice (some ad) m c) (hm : ys.length = m) (hm0 : 0 < m) (hy : ∀ j u, (B8 ys)[j]? = some u → w.cell? (ad.add j) = some u)
    (hb : len + m ≤ 1099511627776)
    (hK : ∀ v' w', w'.ownsRow w.heap.size 5 1 v' (len + m) (B8 (xs ++ ys)) → w.grownBy w' none → wpList Try.prog ops Q rest (a.put o.dst v') w') :
    wpList Try.prog ops Q (o :: rest) a w := by
  obtain ⟨i0, hi, hz0, hz1, hz2⟩ := info_parts Try.info5
  refine wpList_append_grows w hg s x 22 hop 5 i0 (.int .u8 0) 1 1 Try.underlying22 hi hz0 hz1 hz2 rfl (by decide) ao len len (B8 xs) hs (fun h => ?_) (by rw [B8_len]; omega) hr.cells' ad m c (B8 ys) hx (by rw [B8_len]; omega) hy (B8_one _) (by omega) (by unfold maxLen; omega) (by omega) ?_
  · have := hr.bare h; subst this; simp at hlen; omega
  · intro v' w' h1 h2
    rw [← B8_append] at h1
    exact hK v' w' h1 h2

/-- APPEND ONTO WHAT THE CALL OWNS, from whatever slice. -/
theorem app_own {w : World} {ops : Array Oper} {rest : List Oper} {o : Oper} {a : Act} {Q : Exit → Act → World → Prop}
    (hg : o.guard = none) (s x : Operand) (hop : o.op = Op.call { callee := Callee.builtin Builtin.append, args := #[s, x], argTypes := #[22, 22] })
    {base : Nat} {v : Value} {n : Nat} {xs : List Int} (hs : a.eval s = v) (hown : w.ownsRow base 5 1 v n (B8 xs))
    {ao : Option Addr} {m c : Nat} {ys : List Int} (hx : a.eval x = .slice ao m c) (hm : ys.length = m) (hc : ao = none → c = 0) (hy : Rd w ao ys)
    (hb : n + m ≤ 1099511627776) (hbase : base ≤ w.heap.size)
    (hK : ∀ v' w', w'.ownsRow base 5 1 v' (n + m) (B8 (xs ++ ys)) → w.grownBy w' v.ownBlock → wpList Try.prog ops Q rest (a.put o.dst v') w') :
    wpList Try.prog ops Q (o :: rest) a w := by
  obtain ⟨i0, hi, hz0, hz1, hz2⟩ := info_parts Try.info5
  cases ao with
  | none =>
    have h0 := hy.bare rfl
    subst h0
    have hm' : m = 0 := by simpa using hm.symm
    subst hm'
    have hc' := hc rfl
    subst hc'
    refine wpList_append_own_none hg s x 22 hop base 5 i0 1 Try.underlying22 hi v n (B8 xs) hs hown hx ?_
    exact hK v w (by simpa using hown) (World.grownBy.refl _ _)
  | some ad =>
    refine wpList_append_own w hg s x 22 hop base 5 i0 (.int .u8 0) 1 1 Try.underlying22 hi hz0 hz1 hz2 rfl (by decide) v n (B8 xs) hs hown ad m c (B8 ys) hx (by rw [B8_len]; omega) (hy.cells' ad rfl) (B8_one _) (by unfold maxLen; omega) (by omega) hbase ?_
    intro v' w' h1 h2 _
    rw [← B8_append] at h1
    exact hK v' w' h1 h2

theorem cell_one {w : World} (y : Int) (t : TypeId) : ∀ j u, (B8 [y])[j]? = some u → (w.alloc (.cells #[.int .u8 y] t)).cell? ((⟨w.heap.size, 0, none⟩ : Addr).add j) = some u :=
  cell_one_new _ _ _
theorem rd_one (w : World) (y : Int) (t : TypeId) : Rd (w.alloc (.cells #[.int .u8 y] t)) (some ⟨w.heap.size, 0, none⟩) [y] :=
  ⟨(fun h => (by cases h)), fun b hb j hj => (by cases hb; exact cell_one y t j _ (B8_at hj))⟩
/-- A one-element slice just made is the call's own. -/
theorem owns_one (w : World) (y : Int) (base : Nat) (hb : base ≤ w.heap.size) : (w.alloc (.cells #[.int .u8 y] 5)).ownsRow base 5 1 (.slice (some ⟨w.heap.size, 0, none⟩) 1 1) 1 (B8 [y]) :=
  ⟨rfl, .inr ⟨w.heap.size, 1, _, rfl, hb, heap_alloc_new w _, by omega, by unfold maxLen; omega, rfl, rfl⟩⟩

theorem owns_mono {w : World} {base base' : Nat} {v : Value} {n : Nat} {xs : List Value} (h : w.ownsRow base 5 1 v n xs) (hb : base' ≤ base) : w.ownsRow base' 5 1 v n xs :=
  ⟨h.1, (by
    rcases h.2 with h | ⟨g, cap, cur, h1, h2, h3⟩
    · exact .inl h
    · exact .inr ⟨g, cap, cur, h1, Nat.le_trans hb h2, h3⟩)⟩
/-- A step behind an append onto what is owned. -/
theorem bel_own {B : Nat} {w0 w w' : World} {v : Value} {n : Nat} {xs : List Value} (hb : Below B w0 w) (hB : B ≤ w.heap.size) (ho : w.ownsRow B 5 1 v n xs) (hg : w.grownBy w' v.ownBlock) : Below B w0 w' :=
  hb.grown hg hB fun k hk => (ho.lt k hk).1
theorem bel_none {B : Nat} {w0 w w' : World} (hb : Below B w0 w) (hB : B ≤ w.heap.size) (hg : w.grownBy w' none) : Below B w0 w' :=
  hb.grown hg hB fun _ hk => (by cases hk)

/-- A SLICE THAT CAME IN WITHOUT SPARE ROOM (it reads as xs in w0) AND IS APPENDED TO AGAIN AND AGAIN: ys have been appended; either nothing has, and it is what it was; or it lives in a row of the call's own. -/
def On (w0 : World) (ao : Option Addr) (len : Nat) (xs : List Int) (w : World) (v : Value) (ys : List Int) : Prop :=
  Below w0.heap.size w0 w ∧ ((ys = [] ∧ v = .slice ao len len) ∨ w.ownsRow w0.heap.size 5 1 v (len + ys.length) (B8 (xs ++ ys)))

theorem On.start (w0 : World) (ao : Option Addr) (len : Nat) (xs : List Int) : On w0 ao len xs w0 (.slice ao len len) [] := ⟨Below.refl _ _, .inl ⟨rfl, rfl⟩⟩
theorem On.bel {w0 w : World} {ao : Option Addr} {len : Nat} {xs : List Int} {v : Value} {ys : List Int} (h : On w0 ao len xs w v ys) : Below w0.heap.size w0 w := h.1
theorem On.alloc {w0 w : World} {ao : Option Addr} {len : Nat} {xs : List Int} {v : Value} {ys : List Int} (h : On w0 ao len xs w v ys) (o : Obj) : On w0 ao len xs (w.alloc o) v ys :=
  ⟨h.1.alloc h.1.size o, (by
    rcases h.2 with h2 | h2
    · exact .inl h2
    · exact .inr (h2.alloc o))⟩
theorem On.drew {w0 w : World} {ao : Option Addr} {len : Nat} {xs : List Int} {v : Value} {ys : List Int} (h : On w0 ao len xs w v ys) : On w0 ao len xs w.drew v ys :=
  ⟨h.1.drew, h.2⟩
theorem On.drewN {w0 w : World} {ao : Option Addr} {len : Nat} {xs : List Int} {v : Value} {ys : List Int} (h : On w0 ao len xs w v ys) (n : Nat) : On w0 ao len xs (w.drewN n) v ys :=
  ⟨below_drewN h.1 n, h.2⟩
theorem On.own {w0 w : World} {ao : Option Addr} {len : Nat} {xs : List Int} {v : Value} {ys : List Int} (h : On w0 ao len xs w v ys) (hy : ys ≠ []) : w.ownsRow w0.heap.size 5 1 v (len + ys.length) (B8 (xs ++ ys)) := by
  rcases h.2 with h2 | h2
  · exact absurd h2.1 hy
  · exact h2
/-- It reads as xs and, behind them, ys. -/
theorem On.read {w0 w : World} {ao : Option Addr} {len : Nat} {xs : List Int} {v : Value} {ys : List Int} (h : On w0 ao len xs w v ys) (hr : Rd w0 ao xs) (hlen : xs.length = len) :
    ∃ ao' cap, v = .slice ao' (len + ys.length) cap ∧ Rd w ao' (xs ++ ys) ∧ len + ys.length ≤ cap := by
  rcases h.2 with ⟨rfl, rfl⟩ | h2
  · exact ⟨ao, len, rfl, by simpa using hr.below h.1, by simp⟩
  · obtain ⟨ao', cap, rfl, h3, _, _, h4⟩ := Rd.of_owns h2
    rw [List.length_append, hlen] at h4
    exact ⟨ao', cap, by rw [List.length_append, hlen], h3, h4⟩

/-- ONE MORE ELEMENT. -/
theorem app_on {w0 w : World} {ops : Array Oper} {rest : List Oper} {o : Oper} {a : Act} {Q : Exit → Act → World → Prop}
    (hg : o.guard = none) (s x : Operand) (hop : o.op = Op.call { callee := Callee.builtin Builtin.append, args := #[s, x], argTypes := #[22, 22] })
    {ao : Option Addr} {xs : List Int} {len : Nat} {v : Value} {ys : List Int} (hs : a.eval s = v) (hon : On w0 ao len xs w v ys) (hr : Rd w0 ao xs) (hlen : xs.length = len)
    {ad : Addr} {c : Nat} {y : Int} (hx : a.eval x = .slice (some ad) 1 c) (hy : Rd w (some ad) [y])
    (hb : len + ys.length ≤ 549755813888)
    (hK : ∀ v' w', On w0 ao len xs w' v' (ys ++ [y]) → wpList Try.prog ops Q rest (a.put o.dst v') w') :
    wpList Try.prog ops Q (o :: rest) a w := by
  obtain ⟨hbel, h | h⟩ := hon
  · obtain ⟨rfl, rfl⟩ := h
    refine app_tight hg s x hop (hr.below hbel) hlen hs hx rfl (by decide) (hy.cells' ad rfl) (by simp at hb; omega) ?_
    intro v' w' h1 h2
    exact hK v' w' ⟨bel_none hbel hbel.size h2, .inr (owns_mono h1 hbel.size)⟩
  · refine app_own hg s x hop hs h hx rfl (fun h => by cases h) hy (by omega) hbel.size ?_
    intro v' w' h1 h2
    refine hK v' w' ⟨bel_own hbel hbel.size h h2, .inr ?_⟩
    rw [← List.append_assoc, List.length_append]
    exact h1

end Go.Proofs.Qxb6602625a
