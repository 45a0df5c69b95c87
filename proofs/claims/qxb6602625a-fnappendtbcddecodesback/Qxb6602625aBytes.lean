import Derived.Test.Qxb6602625aLaws
import Derived.Deep.LoopGhost
import Derived.Deep.QuietTactic
import Derived.BigQuiet
namespace Go.Proofs.Qxb6602625a
open Go.RowKit
set_option linter.unusedVariables false

set_option maxHeartbeats 400000 in
theorem sameBytes_true (ao1 ao2 : Option Addr) (n c1 c2 : Nat) (xs : List Int) (w : World) (hr1 : Rd w ao1 xs) (hr2 : Rd w ao2 xs) (hlen : xs.length = n) (hb : n ≤ 1099511627776) :
    Calls Try.prog 17 #[.slice ao1 n c1, .slice ao2 n c2] w fun e w' => e = .returned (.bool true) ∧ ∃ q, w' = w.drewN q := by
  by_cases h0 : n = 0
  · subst h0
    clear hr1 hr2 hlen
    go_enter Try.func17, Try.ntmps17
    go_wp2_with fail
    refine wp_loop_rounds 1 ?_
    rw [rounds_succ]
    go_wp2
    go_ret
    exact ⟨rfl, 0, rfl⟩
  · obtain ⟨b1, o1, rfl, hc1⟩ := hr1.at (by omega)
    obtain ⟨b2, o2, rfl, hc2⟩ := hr2.at (by omega)
    have H := And.intro hc1 (And.intro hc2 hlen)
    clear hc1 hc2 hr1 hr2 hlen
    go_enter Try.func17, Try.ntmps17
    go_wp2_with fail
    go_loopg [5] n (fun g iv wr => ∃ k : Nat, iv = .int .i64 k ∧ k + g = n ∧ ∃ q, wr = w.drewN q)
    case atStart => exact ⟨0, rfl, by omega, 0, rfl⟩
    case round =>
      obtain ⟨k, rfl, hk, q, rfl⟩ := hrel
      by_cases hlt : k < n
      · have hlt' : (k : Int) < (n : Int) := by omega
        have hx := H.1 k (by omega)
        have hy := H.2.1 k (by omega)
        go_wp2_with fail
        go_quiet (fail)
        go_wp2
        go_roundg (gk - 1)
        case measure => omega
        case rel => exact ⟨k + 1, by go_num, by omega, q + nq, rfl⟩
      · go_wp2
        go_ret
        exact ⟨rfl, q, rfl⟩

set_option maxHeartbeats 400000 in
theorem hasBytePrefix_true (ao1 ao2 : Option Addr) (m n c1 c2 : Nat) (xs ys : List Int) (w : World) (hr1 : Rd w ao1 (xs ++ ys)) (hr2 : Rd w ao2 xs) (hlen : xs.length = n) (hlen2 : n + ys.length = m) (hb : m ≤ 1099511627776) :
    Calls Try.prog 14 #[.slice ao1 m c1, .slice ao2 n c2] w fun e w' => e = .returned (.bool true) ∧ ∃ q, w' = w.drewN q := by
  have hmn : n ≤ m := by omega
  by_cases h0 : n = 0
  · subst h0
    clear hr1 hr2 hlen hlen2
    go_enter Try.func14, Try.ntmps14
    go_wp2_with fail
    refine wp_loop_rounds 1 ?_
    rw [rounds_succ]
    go_wp2
    go_ret
    exact ⟨rfl, 0, rfl⟩
  · obtain ⟨b1, o1, rfl, hc1⟩ := hr1.at (by simp; omega)
    obtain ⟨b2, o2, rfl, hc2⟩ := hr2.at (by omega)
    have H := And.intro hc1 (And.intro hc2 hlen)
    clear hc1 hc2 hr1 hr2 hlen hlen2
    go_enter Try.func14, Try.ntmps14
    go_wp2_with fail
    go_loopg [5] n (fun g iv wr => ∃ k : Nat, iv = .int .i64 k ∧ k + g = n ∧ ∃ q, wr = w.drewN q)
    case atStart => exact ⟨0, rfl, by omega, 0, rfl⟩
    case round =>
      obtain ⟨k, rfl, hk, q, rfl⟩ := hrel
      by_cases hlt : k < n
      · have hlt' : (k : Int) < (n : Int) := by omega
        have hltm : (k : Int) < (m : Int) := by omega
        have hx : w.cell? ⟨b1, o1 + k, none⟩ = some (.int .u8 (xs.getD k 0)) := by
          have := H.1 k (by simp; omega)
          rw [this]
          simp [List.getElem?_append_left (show k < xs.length by omega)]
        have hy := H.2.1 k (by omega)
        go_wp2_with fail
        go_quiet (fail)
        go_wp2
        go_roundg (gk - 1)
        case measure => omega
        case rel => exact ⟨k + 1, by go_num, by omega, q + nq, rfl⟩
      · go_wp2
        go_ret
        exact ⟨rfl, q, rfl⟩

end Go.Proofs.Qxb6602625a
