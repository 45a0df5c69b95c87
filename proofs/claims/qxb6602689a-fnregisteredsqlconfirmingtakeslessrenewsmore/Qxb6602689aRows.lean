/-
  No cell of these rows narrows 'for every input' (looked for: loops, veiled, ifaces, maps, wideKeys, modest, calm, conditions, laid).
  DERIVED. THE GIVEN ROWS OF THIS SEAT. 3 by the template 'for every input the law returns true; each argument reads behind the call as it read before'; 0 by the template 'total and deterministic' (their statements: Qxb6602689aTotals.lean).
  GIVEN WITH THE SEED: the statements are not yours to turn. If you find one false, say at which input.
  Laid BY PROGRAM, IN A SANDBOX (cutbox-rows.mjs): the forced cells as the released guide's own fill.sh prints them over the translation c27d968e0627ea0b… (all of the seat's roots in one cut). By AI agents, Wed Nov 11 2026. No macro, syntax, notation, axiom, sorry.
-/
import Derived.Test.Qxb6602689aChecked
import GoSem.Claim
import GoSem.ClaimJoined
import GoSem.ClaimMapViews
import Derived.JoinedTies
import Derived.KernelRfl
namespace Go.Proofs.Qxb6602689a
/- THE CELL 'sum', in the pinned program and in every row, IS THE sha256 OF THE DUMP (.gsa) THAT Qxb6602689aProg.lean LOADS. Nothing in Lean hashes anything: it is a label: what it is worth is what the hold of that sum in a sandbox is worth. -/
noncomputable def Try.pinned : Pinned := { name := "qxb6602689a", sum := "c27d968e0627ea0bb07a4e960b64c9fb60aab7deed97e99bf732251bd486f384", checked := Try.checked }
namespace Rows
def none {H : Type} : Left H := { results := [], args := [] }

/-- 'zzlaws_postgres_b1.FnRegisteredSQLCampaignMarksExactlyTheRenewal': WHATEVER THE INPUT: true; the input reads as it did. -/
def fnRegisteredSQLCampaignMarksExactlyTheRenewalSpec : ChangeSpec := { name := "fnRegisteredSQLCampaignMarksExactlyTheRenewal", fn := fun _ => fun
  | [d1, d2] => { results := [.lit (.bool true)], args := [d1, d2] }
  | _ => none }
def fnRegisteredSQLCampaignMarksExactlyTheRenewalRow : OpenClaim := { program := "qxb6602689a", sum := "c27d968e0627ea0bb07a4e960b64c9fb60aab7deed97e99bf732251bd486f384", func := "example.com/frontrunner/frontrunner/zzlaws_postgres_b1.FnRegisteredSQLCampaignMarksExactlyTheRenewal", spec := "fnRegisteredSQLCampaignMarksExactlyTheRenewal", apart := false }
def FnRegisteredSQLCampaignMarksExactlyTheRenewalSaid : Prop := fnRegisteredSQLCampaignMarksExactlyTheRenewalRow.holds Try.pinned (OpenSpec.ofChange fnRegisteredSQLCampaignMarksExactlyTheRenewalSpec)

/-- ITS FALSE NEIGHBOUR: 'it returns false'. Refute it at one input. -/
def fnRegisteredSQLCampaignMarksExactlyTheRenewalWrong : ChangeSpec := { name := "fnRegisteredSQLCampaignMarksExactlyTheRenewal", fn := fun _ => fun
  | [d1, d2] => { results := [.lit (.bool false)], args := [d1, d2] }
  | _ => none }
def FnRegisteredSQLCampaignMarksExactlyTheRenewalWrongFalsely : Prop := fnRegisteredSQLCampaignMarksExactlyTheRenewalRow.holds Try.pinned (OpenSpec.ofChange fnRegisteredSQLCampaignMarksExactlyTheRenewalWrong)

/-- 'zzlaws_postgres_b1.FnRegisteredSQLConfirmingTakesLessRenewsMore': WHATEVER THE INPUT: true; the input reads as it did. -/
def fnRegisteredSQLConfirmingTakesLessRenewsMoreSpec : ChangeSpec := { name := "fnRegisteredSQLConfirmingTakesLessRenewsMore", fn := fun _ => fun
  | [d] => { results := [.lit (.bool true)], args := [d] }
  | _ => none }
def fnRegisteredSQLConfirmingTakesLessRenewsMoreRow : OpenClaim := { program := "qxb6602689a", sum := "c27d968e0627ea0bb07a4e960b64c9fb60aab7deed97e99bf732251bd486f384", func := "example.com/frontrunner/frontrunner/zzlaws_postgres_b1.FnRegisteredSQLConfirmingTakesLessRenewsMore", spec := "fnRegisteredSQLConfirmingTakesLessRenewsMore", apart := false }
def FnRegisteredSQLConfirmingTakesLessRenewsMoreSaid : Prop := fnRegisteredSQLConfirmingTakesLessRenewsMoreRow.holds Try.pinned (OpenSpec.ofChange fnRegisteredSQLConfirmingTakesLessRenewsMoreSpec)

/-- ITS FALSE NEIGHBOUR: 'it returns false'. Refute it at one input. -/
def fnRegisteredSQLConfirmingTakesLessRenewsMoreWrong : ChangeSpec := { name := "fnRegisteredSQLConfirmingTakesLessRenewsMore", fn := fun _ => fun
  | [d] => { results := [.lit (.bool false)], args := [d] }
  | _ => none }
def FnRegisteredSQLConfirmingTakesLessRenewsMoreWrongFalsely : Prop := fnRegisteredSQLConfirmingTakesLessRenewsMoreRow.holds Try.pinned (OpenSpec.ofChange fnRegisteredSQLConfirmingTakesLessRenewsMoreWrong)

/-- 'zzlaws_postgres_b1.FnRegisteredSQLIsTwoWellFormedCTEs': WHATEVER THE INPUT: true; the input reads as it did. -/
def fnRegisteredSQLIsTwoWellFormedCTEsSpec : ChangeSpec := { name := "fnRegisteredSQLIsTwoWellFormedCTEs", fn := fun _ => fun
  | [d1, d2] => { results := [.lit (.bool true)], args := [d1, d2] }
  | _ => none }
def fnRegisteredSQLIsTwoWellFormedCTEsRow : OpenClaim := { program := "qxb6602689a", sum := "c27d968e0627ea0bb07a4e960b64c9fb60aab7deed97e99bf732251bd486f384", func := "example.com/frontrunner/frontrunner/zzlaws_postgres_b1.FnRegisteredSQLIsTwoWellFormedCTEs", spec := "fnRegisteredSQLIsTwoWellFormedCTEs", apart := false }
def FnRegisteredSQLIsTwoWellFormedCTEsSaid : Prop := fnRegisteredSQLIsTwoWellFormedCTEsRow.holds Try.pinned (OpenSpec.ofChange fnRegisteredSQLIsTwoWellFormedCTEsSpec)

/-- ITS FALSE NEIGHBOUR: 'it returns false'. Refute it at one input. -/
def fnRegisteredSQLIsTwoWellFormedCTEsWrong : ChangeSpec := { name := "fnRegisteredSQLIsTwoWellFormedCTEs", fn := fun _ => fun
  | [d1, d2] => { results := [.lit (.bool false)], args := [d1, d2] }
  | _ => none }
def FnRegisteredSQLIsTwoWellFormedCTEsWrongFalsely : Prop := fnRegisteredSQLIsTwoWellFormedCTEsRow.holds Try.pinned (OpenSpec.ofChange fnRegisteredSQLIsTwoWellFormedCTEsWrong)

end Rows
end Go.Proofs.Qxb6602689a
