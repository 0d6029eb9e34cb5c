/-
  No cell of these rows narrows 'for every input' (looked for: loops, veiled, ifaces, maps, wideKeys, modest, calm, conditions, laid).
  DERIVED. THE GIVEN ROWS OF THIS SEAT. 4 by the template 'for every input the law returns true; each argument reads behind the call as it read before'; 0 by the template 'total and deterministic' (their statements: Qxb6602681aTotals.lean).
  GIVEN WITH THE SEED: the statements are not yours to turn. If you find one false, say at which input.
  Laid BY PROGRAM, IN A SANDBOX (cutbox-rows.mjs): the forced cells as the released guide's own fill.sh prints them over the translation 1b804d35273aece8… (all of the seat's roots in one cut). By AI agents, Wed Nov 11 2026. No macro, syntax, notation, axiom, sorry.
-/
import Derived.Test.Qxb6602681aChecked
import GoSem.Claim
import GoSem.ClaimJoined
import GoSem.ClaimMapViews
import Derived.JoinedTies
import Derived.KernelRfl
namespace Go.Proofs.Qxb6602681a
/- THE CELL 'sum', in the pinned program and in every row, IS THE sha256 OF THE DUMP (.gsa) THAT Qxb6602681aProg.lean LOADS. Nothing in Lean hashes anything: it is a label: what it is worth is what the hold of that sum in a sandbox is worth. -/
noncomputable def Try.pinned : Pinned := { name := "qxb6602681a", sum := "1b804d35273aece86b562234198406b27ecc5d497ae21ede6b3a0983c13bbea2", checked := Try.checked }
namespace Rows
def none {H : Type} : Left H := { results := [], args := [] }

/-- 'zzlaws_internal_sim_b1.FnAtLatestListStartedByHeight': WHATEVER THE INPUT: true; the input reads as it did. -/
def fnAtLatestListStartedByHeightSpec : ChangeSpec := { name := "fnAtLatestListStartedByHeight", fn := fun _ => fun
  | [d1, d2, d3] => { results := [.lit (.bool true)], args := [d1, d2, d3] }
  | _ => none }
def fnAtLatestListStartedByHeightRow : OpenClaim := { program := "qxb6602681a", sum := "1b804d35273aece86b562234198406b27ecc5d497ae21ede6b3a0983c13bbea2", func := "example.com/roundstone/roundstone/zzlaws_internal_sim_b1.FnAtLatestListStartedByHeight", spec := "fnAtLatestListStartedByHeight", apart := false }
def FnAtLatestListStartedByHeightSaid : Prop := fnAtLatestListStartedByHeightRow.holds Try.pinned (OpenSpec.ofChange fnAtLatestListStartedByHeightSpec)

/-- ITS FALSE NEIGHBOUR: 'it returns false'. Refute it at one input. -/
def fnAtLatestListStartedByHeightWrong : ChangeSpec := { name := "fnAtLatestListStartedByHeight", fn := fun _ => fun
  | [d1, d2, d3] => { results := [.lit (.bool false)], args := [d1, d2, d3] }
  | _ => none }
def FnAtLatestListStartedByHeightWrongFalsely : Prop := fnAtLatestListStartedByHeightRow.holds Try.pinned (OpenSpec.ofChange fnAtLatestListStartedByHeightWrong)

/-- 'zzlaws_internal_sim_b1.FnAtFutureListChangesNoPastHeight': WHATEVER THE INPUT: true; the input reads as it did. -/
def fnAtFutureListChangesNoPastHeightSpec : ChangeSpec := { name := "fnAtFutureListChangesNoPastHeight", fn := fun _ => fun
  | [d1, d2, d3, d4, d5] => { results := [.lit (.bool true)], args := [d1, d2, d3, d4, d5] }
  | _ => none }
def fnAtFutureListChangesNoPastHeightRow : OpenClaim := { program := "qxb6602681a", sum := "1b804d35273aece86b562234198406b27ecc5d497ae21ede6b3a0983c13bbea2", func := "example.com/roundstone/roundstone/zzlaws_internal_sim_b1.FnAtFutureListChangesNoPastHeight", spec := "fnAtFutureListChangesNoPastHeight", apart := false }
def FnAtFutureListChangesNoPastHeightSaid : Prop := fnAtFutureListChangesNoPastHeightRow.holds Try.pinned (OpenSpec.ofChange fnAtFutureListChangesNoPastHeightSpec)

/-- ITS FALSE NEIGHBOUR: 'it returns false'. Refute it at one input. -/
def fnAtFutureListChangesNoPastHeightWrong : ChangeSpec := { name := "fnAtFutureListChangesNoPastHeight", fn := fun _ => fun
  | [d1, d2, d3, d4, d5] => { results := [.lit (.bool false)], args := [d1, d2, d3, d4, d5] }
  | _ => none }
def FnAtFutureListChangesNoPastHeightWrongFalsely : Prop := fnAtFutureListChangesNoPastHeightRow.holds Try.pinned (OpenSpec.ofChange fnAtFutureListChangesNoPastHeightWrong)

/-- 'zzlaws_internal_sim_b1.FnMatchesEachCriterionAlone': WHATEVER THE INPUT: true; the input reads as it did. -/
def fnMatchesEachCriterionAloneSpec : ChangeSpec := { name := "fnMatchesEachCriterionAlone", fn := fun _ => fun
  | [d1, d2, d3, d4, d5, d6, d7, d8, d9, d10, d11] => { results := [.lit (.bool true)], args := [d1, d2, d3, d4, d5, d6, d7, d8, d9, d10, d11] }
  | _ => none }
def fnMatchesEachCriterionAloneRow : OpenClaim := { program := "qxb6602681a", sum := "1b804d35273aece86b562234198406b27ecc5d497ae21ede6b3a0983c13bbea2", func := "example.com/roundstone/roundstone/zzlaws_internal_sim_b1.FnMatchesEachCriterionAlone", spec := "fnMatchesEachCriterionAlone", apart := false }
def FnMatchesEachCriterionAloneSaid : Prop := fnMatchesEachCriterionAloneRow.holds Try.pinned (OpenSpec.ofChange fnMatchesEachCriterionAloneSpec)

/-- ITS FALSE NEIGHBOUR: 'it returns false'. Refute it at one input. -/
def fnMatchesEachCriterionAloneWrong : ChangeSpec := { name := "fnMatchesEachCriterionAlone", fn := fun _ => fun
  | [d1, d2, d3, d4, d5, d6, d7, d8, d9, d10, d11] => { results := [.lit (.bool false)], args := [d1, d2, d3, d4, d5, d6, d7, d8, d9, d10, d11] }
  | _ => none }
def FnMatchesEachCriterionAloneWrongFalsely : Prop := fnMatchesEachCriterionAloneRow.holds Try.pinned (OpenSpec.ofChange fnMatchesEachCriterionAloneWrong)

/-- 'zzlaws_internal_sim_b1.FnMatchesDroppingACriterionKeepsMatches': WHATEVER THE INPUT: true; the input reads as it did. -/
def fnMatchesDroppingACriterionKeepsMatchesSpec : ChangeSpec := { name := "fnMatchesDroppingACriterionKeepsMatches", fn := fun _ => fun
  | [d1, d2, d3, d4, d5, d6, d7, d8, d9, d10, d11] => { results := [.lit (.bool true)], args := [d1, d2, d3, d4, d5, d6, d7, d8, d9, d10, d11] }
  | _ => none }
def fnMatchesDroppingACriterionKeepsMatchesRow : OpenClaim := { program := "qxb6602681a", sum := "1b804d35273aece86b562234198406b27ecc5d497ae21ede6b3a0983c13bbea2", func := "example.com/roundstone/roundstone/zzlaws_internal_sim_b1.FnMatchesDroppingACriterionKeepsMatches", spec := "fnMatchesDroppingACriterionKeepsMatches", apart := false }
def FnMatchesDroppingACriterionKeepsMatchesSaid : Prop := fnMatchesDroppingACriterionKeepsMatchesRow.holds Try.pinned (OpenSpec.ofChange fnMatchesDroppingACriterionKeepsMatchesSpec)

/-- ITS FALSE NEIGHBOUR: 'it returns false'. Refute it at one input. -/
def fnMatchesDroppingACriterionKeepsMatchesWrong : ChangeSpec := { name := "fnMatchesDroppingACriterionKeepsMatches", fn := fun _ => fun
  | [d1, d2, d3, d4, d5, d6, d7, d8, d9, d10, d11] => { results := [.lit (.bool false)], args := [d1, d2, d3, d4, d5, d6, d7, d8, d9, d10, d11] }
  | _ => none }
def FnMatchesDroppingACriterionKeepsMatchesWrongFalsely : Prop := fnMatchesDroppingACriterionKeepsMatchesRow.holds Try.pinned (OpenSpec.ofChange fnMatchesDroppingACriterionKeepsMatchesWrong)

end Rows
end Go.Proofs.Qxb6602681a
