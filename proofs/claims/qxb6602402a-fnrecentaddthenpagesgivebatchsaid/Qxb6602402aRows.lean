/-
  No cell of these rows narrows 'for every input' (looked for: loops, veiled, ifaces, maps, wideKeys, modest, calm, conditions, laid).
  DERIVED. THE GIVEN ROWS OF THIS SEAT. 6 by the template 'for every input the law returns true; each argument reads behind the call as it read before'; 0 by the template 'total and deterministic' (their statements: Qxb6602402aTotals.lean).
  GIVEN WITH THE SEED: the statements are not yours to turn. If you find one false, say at which input.
  Laid BY PROGRAM, IN A SANDBOX (cutbox-rows.mjs): the forced cells as the released guide's own fill.sh prints them over the translation 99627184d395af11… (all of the seat's roots in one cut). By AI agents, Wed Nov 11 2026. No macro, syntax, notation, axiom, sorry.
-/
import Derived.Test.Qxb6602402aChecked
import GoSem.Claim
import GoSem.ClaimJoined
import GoSem.ClaimMapViews
import Derived.JoinedTies
import Derived.KernelRfl
namespace Go.Proofs.Qxb6602402a
/- THE CELL 'sum', in the pinned program and in every row, IS THE sha256 OF THE DUMP (.gsa) THAT Qxb6602402aProg.lean LOADS. Nothing in Lean hashes anything: it is a label: what it is worth is what the hold of that sum in a sandbox is worth. -/
noncomputable def Try.pinned : Pinned := { name := "qxb6602402a", sum := "99627184d395af11b21084acffa445dcb834a763e6d69e8f13e999385c99e7ea", checked := Try.checked }
namespace Rows
def none {H : Type} : Left H := { results := [], args := [] }

/-- 'zzlaws_pkg_replica_b1.FnRecentFromMatchesBackwardModel': WHATEVER THE INPUT: true; the input reads as it did. -/
def fnRecentFromMatchesBackwardModelSpec : ChangeSpec := { name := "fnRecentFromMatchesBackwardModel", fn := fun _ => fun
  | [d1, d2, d3, d4, d5] => { results := [.lit (.bool true)], args := [d1, d2, d3, d4, d5] }
  | _ => none }
def fnRecentFromMatchesBackwardModelRow : OpenClaim := { program := "qxb6602402a", sum := "99627184d395af11b21084acffa445dcb834a763e6d69e8f13e999385c99e7ea", func := "example.com/concordat/concordat/zzlaws_pkg_replica_b1.FnRecentFromMatchesBackwardModel", spec := "fnRecentFromMatchesBackwardModel", apart := false }
def FnRecentFromMatchesBackwardModelSaid : Prop := fnRecentFromMatchesBackwardModelRow.holds Try.pinned (OpenSpec.ofChange fnRecentFromMatchesBackwardModelSpec)

/-- ITS FALSE NEIGHBOUR: 'it returns false'. Refute it at one input. -/
def fnRecentFromMatchesBackwardModelWrong : ChangeSpec := { name := "fnRecentFromMatchesBackwardModel", fn := fun _ => fun
  | [d1, d2, d3, d4, d5] => { results := [.lit (.bool false)], args := [d1, d2, d3, d4, d5] }
  | _ => none }
def FnRecentFromMatchesBackwardModelWrongFalsely : Prop := fnRecentFromMatchesBackwardModelRow.holds Try.pinned (OpenSpec.ofChange fnRecentFromMatchesBackwardModelWrong)

/-- 'zzlaws_pkg_replica_b1.FnRecentFromAfterDropAgrees': WHATEVER THE INPUT: true; the input reads as it did. -/
def fnRecentFromAfterDropAgreesSpec : ChangeSpec := { name := "fnRecentFromAfterDropAgrees", fn := fun _ => fun
  | [d1, d2, d3, d4, d5, d6] => { results := [.lit (.bool true)], args := [d1, d2, d3, d4, d5, d6] }
  | _ => none }
def fnRecentFromAfterDropAgreesRow : OpenClaim := { program := "qxb6602402a", sum := "99627184d395af11b21084acffa445dcb834a763e6d69e8f13e999385c99e7ea", func := "example.com/concordat/concordat/zzlaws_pkg_replica_b1.FnRecentFromAfterDropAgrees", spec := "fnRecentFromAfterDropAgrees", apart := false }
def FnRecentFromAfterDropAgreesSaid : Prop := fnRecentFromAfterDropAgreesRow.holds Try.pinned (OpenSpec.ofChange fnRecentFromAfterDropAgreesSpec)

/-- ITS FALSE NEIGHBOUR: 'it returns false'. Refute it at one input. -/
def fnRecentFromAfterDropAgreesWrong : ChangeSpec := { name := "fnRecentFromAfterDropAgrees", fn := fun _ => fun
  | [d1, d2, d3, d4, d5, d6] => { results := [.lit (.bool false)], args := [d1, d2, d3, d4, d5, d6] }
  | _ => none }
def FnRecentFromAfterDropAgreesWrongFalsely : Prop := fnRecentFromAfterDropAgreesRow.holds Try.pinned (OpenSpec.ofChange fnRecentFromAfterDropAgreesWrong)

/-- 'zzlaws_pkg_replica_b1.FnRecentDropMatchesClosedForm': WHATEVER THE INPUT: true; the input reads as it did. -/
def fnRecentDropMatchesClosedFormSpec : ChangeSpec := { name := "fnRecentDropMatchesClosedForm", fn := fun _ => fun
  | [d1, d2, d3, d4] => { results := [.lit (.bool true)], args := [d1, d2, d3, d4] }
  | _ => none }
def fnRecentDropMatchesClosedFormRow : OpenClaim := { program := "qxb6602402a", sum := "99627184d395af11b21084acffa445dcb834a763e6d69e8f13e999385c99e7ea", func := "example.com/concordat/concordat/zzlaws_pkg_replica_b1.FnRecentDropMatchesClosedForm", spec := "fnRecentDropMatchesClosedForm", apart := false }
def FnRecentDropMatchesClosedFormSaid : Prop := fnRecentDropMatchesClosedFormRow.holds Try.pinned (OpenSpec.ofChange fnRecentDropMatchesClosedFormSpec)

/-- ITS FALSE NEIGHBOUR: 'it returns false'. Refute it at one input. -/
def fnRecentDropMatchesClosedFormWrong : ChangeSpec := { name := "fnRecentDropMatchesClosedForm", fn := fun _ => fun
  | [d1, d2, d3, d4] => { results := [.lit (.bool false)], args := [d1, d2, d3, d4] }
  | _ => none }
def FnRecentDropMatchesClosedFormWrongFalsely : Prop := fnRecentDropMatchesClosedFormRow.holds Try.pinned (OpenSpec.ofChange fnRecentDropMatchesClosedFormWrong)

/-- 'zzlaws_pkg_replica_b1.FnRecentDropTwiceIsDropOfLater': WHATEVER THE INPUT: true; the input reads as it did. -/
def fnRecentDropTwiceIsDropOfLaterSpec : ChangeSpec := { name := "fnRecentDropTwiceIsDropOfLater", fn := fun _ => fun
  | [d1, d2, d3, d4, d5] => { results := [.lit (.bool true)], args := [d1, d2, d3, d4, d5] }
  | _ => none }
def fnRecentDropTwiceIsDropOfLaterRow : OpenClaim := { program := "qxb6602402a", sum := "99627184d395af11b21084acffa445dcb834a763e6d69e8f13e999385c99e7ea", func := "example.com/concordat/concordat/zzlaws_pkg_replica_b1.FnRecentDropTwiceIsDropOfLater", spec := "fnRecentDropTwiceIsDropOfLater", apart := false }
def FnRecentDropTwiceIsDropOfLaterSaid : Prop := fnRecentDropTwiceIsDropOfLaterRow.holds Try.pinned (OpenSpec.ofChange fnRecentDropTwiceIsDropOfLaterSpec)

/-- ITS FALSE NEIGHBOUR: 'it returns false'. Refute it at one input. -/
def fnRecentDropTwiceIsDropOfLaterWrong : ChangeSpec := { name := "fnRecentDropTwiceIsDropOfLater", fn := fun _ => fun
  | [d1, d2, d3, d4, d5] => { results := [.lit (.bool false)], args := [d1, d2, d3, d4, d5] }
  | _ => none }
def FnRecentDropTwiceIsDropOfLaterWrongFalsely : Prop := fnRecentDropTwiceIsDropOfLaterRow.holds Try.pinned (OpenSpec.ofChange fnRecentDropTwiceIsDropOfLaterWrong)

/-- 'zzlaws_pkg_replica_b1.FnRecentAddMatchesNewestFirstModel': WHATEVER THE INPUT: true; the input reads as it did. -/
def fnRecentAddMatchesNewestFirstModelSpec : ChangeSpec := { name := "fnRecentAddMatchesNewestFirstModel", fn := fun _ => fun
  | [d1, d2, d3, d4] => { results := [.lit (.bool true)], args := [d1, d2, d3, d4] }
  | _ => none }
def fnRecentAddMatchesNewestFirstModelRow : OpenClaim := { program := "qxb6602402a", sum := "99627184d395af11b21084acffa445dcb834a763e6d69e8f13e999385c99e7ea", func := "example.com/concordat/concordat/zzlaws_pkg_replica_b1.FnRecentAddMatchesNewestFirstModel", spec := "fnRecentAddMatchesNewestFirstModel", apart := false }
def FnRecentAddMatchesNewestFirstModelSaid : Prop := fnRecentAddMatchesNewestFirstModelRow.holds Try.pinned (OpenSpec.ofChange fnRecentAddMatchesNewestFirstModelSpec)

/-- ITS FALSE NEIGHBOUR: 'it returns false'. Refute it at one input. -/
def fnRecentAddMatchesNewestFirstModelWrong : ChangeSpec := { name := "fnRecentAddMatchesNewestFirstModel", fn := fun _ => fun
  | [d1, d2, d3, d4] => { results := [.lit (.bool false)], args := [d1, d2, d3, d4] }
  | _ => none }
def FnRecentAddMatchesNewestFirstModelWrongFalsely : Prop := fnRecentAddMatchesNewestFirstModelRow.holds Try.pinned (OpenSpec.ofChange fnRecentAddMatchesNewestFirstModelWrong)

/-- 'zzlaws_pkg_replica_b1.FnRecentAddThenPagesGiveBatch': WHATEVER THE INPUT: true; the input reads as it did. -/
def fnRecentAddThenPagesGiveBatchSpec : ChangeSpec := { name := "fnRecentAddThenPagesGiveBatch", fn := fun _ => fun
  | [d1, d2, d3, d4, d5] => { results := [.lit (.bool true)], args := [d1, d2, d3, d4, d5] }
  | _ => none }
def fnRecentAddThenPagesGiveBatchRow : OpenClaim := { program := "qxb6602402a", sum := "99627184d395af11b21084acffa445dcb834a763e6d69e8f13e999385c99e7ea", func := "example.com/concordat/concordat/zzlaws_pkg_replica_b1.FnRecentAddThenPagesGiveBatch", spec := "fnRecentAddThenPagesGiveBatch", apart := false }
def FnRecentAddThenPagesGiveBatchSaid : Prop := fnRecentAddThenPagesGiveBatchRow.holds Try.pinned (OpenSpec.ofChange fnRecentAddThenPagesGiveBatchSpec)

/-- ITS FALSE NEIGHBOUR: 'it returns false'. Refute it at one input. -/
def fnRecentAddThenPagesGiveBatchWrong : ChangeSpec := { name := "fnRecentAddThenPagesGiveBatch", fn := fun _ => fun
  | [d1, d2, d3, d4, d5] => { results := [.lit (.bool false)], args := [d1, d2, d3, d4, d5] }
  | _ => none }
def FnRecentAddThenPagesGiveBatchWrongFalsely : Prop := fnRecentAddThenPagesGiveBatchRow.holds Try.pinned (OpenSpec.ofChange fnRecentAddThenPagesGiveBatchWrong)

end Rows
end Go.Proofs.Qxb6602402a
