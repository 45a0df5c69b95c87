import Derived.Test.Qxb6602625aLaws
import Derived.Laws.CopyOwn
import Derived.Deep.LoopGhost
namespace Go.Proofs.Qxb6602625a
open Go.RowKit
set_option linter.unusedVariables false

/-- What came in: the first 'len' of its cells. -/
theorem Rd.of_take {w : World} {x : Addr} {len : Nat} {zs : List Int} (h : ∀ i, i < zs.length → w.cell? (x.add i) = some (.int .u8 (zs.getD i 0))) : Rd w (some x) (zs.take len) :=
  ⟨(fun h => (by cases h)), fun b hb j hj => (by
    cases hb
    have hj' : j < len ∧ j < zs.length := by simp at hj; omega
    rw [h j hj'.2]
    simp [hj'.1])⟩

theorem splice_all (cur cs : List Value) (h : cur.length = cs.length) : splice cur 0 cs = cs := by
  unfold splice
  simp [h]

/-- COPY OVER A WHOLE ROW OF THE CALL's OWN. -/
theorem copy_all {w : World} {ops : Array Oper} {rest : List Oper} {o : Oper} {a : Act} {Q : Exit → Act → World → Prop}
    (hgd : o.guard = none) (d s : Operand) (hop : o.op = .call { callee := .builtin .copy, args := #[d, s], argTypes := #[22, 22] })
    {B g n cap : Nat} {cs : List Value} (hown : w.ownsRow B 5 1 (.slice (some ⟨g, 0, none⟩) n n) n cs) (hd : a.eval d = .slice (some ⟨g, 0, none⟩) n n)
    {ao : Option Addr} {xs : List Int} (hr : Rd w ao xs) (hlen : xs.length = n) (hs : a.eval s = .slice ao n cap) {w0 : World} (hb : Below B w0 w)
    (hK : ∀ w', Rd w' (some ⟨g, 0, none⟩) xs → Below B w0 w' → wpList Try.prog ops Q rest (a.put o.dst (goInt (B8 xs).length)) w') :
    wpList Try.prog ops Q (o :: rest) a w := by
  obtain ⟨i0, hi, hz0, hz1, hz2⟩ := info_parts Try.info5
  obtain ⟨h1, h2 | ⟨g', cap', cur, h2, h3, h4, h5, h6, h7, h8⟩⟩ := hown
  · exact absurd h2.1 (by simp)
  · simp at h2
    obtain ⟨rfl, rfl⟩ := h2
    refine wpList_copy_splice hgd d s 22 22 hop 5 Try.underlying22 (by rw [hi]; simp [hz1]) (some ⟨g, 0, none⟩) ao n n n cap hd hs g 0 cur.toList 5 (by simpa using h4) (B8 xs) (by rw [B8_len, hlen]; exact (Nat.min_self n).symm) ?_ (by rw [B8_len]; simp; omega) (B8_one _) B w0 hb h3 ?_
    · intro h0
      refine ⟨rfl, ?_⟩
      cases ao with
      | none => have := hr.bare rfl; subst this; simp [B8] at h0
      | some ad => exact ⟨ad, rfl, hr.cells' ad rfl⟩
    · intro w' hw' hb'
      have hw := hw'.out
      rw [splice_all _ _ (by rw [B8_len]; simp; omega)] at hw
      refine hK w' ⟨(fun h => (by cases h)), fun c hc j hj => ?_⟩ hb'
      cases hc
      rw [Addr.add_lit]
      simp only [World.cell?, hw]
      have := B8_at hj
      simpa using this

set_option maxHeartbeats 400000 in
/-- THE CONTRACT OF cloneBytes: a slice without spare room that reads as its argument. -/
theorem cloneBytes_any (ao : Option Addr) (len cap : Nat) (xs : List Int) (w : World) (hr : Rd w ao xs) (hlen : xs.length = len) (hb : len ≤ 1048576) (hnil : ao = none → cap = 0) :
    Calls Try.prog 12 #[.slice ao len cap] w fun e w' => ∃ ao', e = .returned (.slice ao' len len) ∧ Rd w' ao' xs ∧ Below w.heap.size w w' := by
  have q22 : ∀ (w : World) (a : Option Addr) (n c n' c' : Nat), (binOp .eql 22 (.slice a n c) (.slice none n' c')).run Try.prog w = .ok (.bool a.isNone) w := fun w a n c n' c' => Lib.run_eql_slice_nil w _ _ a n c n' c' Try.underlying22
  cases ao with
  | none =>
    have hx := hr.bare rfl
    subst hx
    have hl : len = 0 := by simpa using hlen.symm
    subst hl
    have hc := hnil rfl
    subst hc
    clear hr hlen hnil
    go_enter Try.func12, Try.ntmps12
    go_wp2
    go_ret
    exact ⟨none, rfl, Rd.nil _, Below.refl _ _⟩
  | some ad =>
    obtain ⟨i0, hi, hz0, hz1, hz2⟩ := info_parts Try.info5
    have H := And.intro hr hlen
    clear hr hlen hnil
    go_enter Try.func12, Try.ntmps12
    go_wp2_with (first
      | (at_make; refine wpList_make_full _ rfl (.tmp 7) (.tmp 7) 22 rfl w.heap.size 5 i0 (.int .u8 0) 1 Try.underlying22 hi hz0 hz1 _ _ _ _ len rfl rfl rfl rfl (by rw [hz2]; omega) (by unfold maxLen; omega) (Nat.le_refl _) ?_; intro w1 hown1 hgr1; have hbel1 : Below w.heap.size w w1 := bel_none (Below.refl _ _) (Nat.le_refl _) hgr1)
      | (refine copy_all rfl (.tmp 9) (.tmp 10) rfl hown1 rfl (H.1.below hbel1) H.2 rfl hbel1 ?_; intro w2 hrd2 hbel2))
    go_ret
    exact ⟨_, rfl, hrd2, hbel2⟩

end Go.Proofs.Qxb6602625a
