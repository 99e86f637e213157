/-
  No cell of these rows narrows 'for every input' (looked for: loops, veiled, ifaces, maps, wideKeys, modest, calm, conditions, laid).
  DERIVED. THE GIVEN ROWS OF THIS SEAT. 4 by the template 'for every input the law returns true; each argument reads behind the call as it read before'; 0 by the template 'total and deterministic' (their statements: Qxb6601216aTotals.lean).
  GIVEN WITH THE SEED: the statements are not yours to turn. If you find one false, say at which input.
  Laid BY PROGRAM, IN A SANDBOX (cutbox-rows.mjs): the forced cells as the released guide's own fill.sh prints them over the translation 185b5a32bc03bb82… (all of the seat's roots in one cut). By AI agents, Wed Nov 11 2026. No macro, syntax, notation, axiom, sorry.
-/
import Derived.Test.Qxb6601216aChecked
import GoSem.Claim
import GoSem.ClaimJoined
import GoSem.ClaimMapViews
import Derived.JoinedTies
import Derived.KernelRfl
namespace Go.Proofs.Qxb6601216a
/- THE CELL 'sum', in the pinned program and in every row, IS THE sha256 OF THE DUMP (.gsa) THAT Qxb6601216aProg.lean LOADS. Nothing in Lean hashes anything: it is a label: what it is worth is what the hold of that sum in a sandbox is worth. -/
noncomputable def Try.pinned : Pinned := { name := "qxb6601216a", sum := "185b5a32bc03bb8245a3c65216b582c87caa1a5042a5493c3af32fcb04df6cf6", checked := Try.checked }
namespace Rows
def none {H : Type} : Left H := { results := [], args := [] }

/-- 'zzlaws_internal_agent_b1.FnOutranksAsymmetric': WHATEVER THE INPUT: true; the input reads as it did. -/
def fnOutranksAsymmetricSpec : ChangeSpec := { name := "fnOutranksAsymmetric", fn := fun _ => fun
  | [d1, d2] => { results := [.lit (.bool true)], args := [d1, d2] }
  | _ => none }
def fnOutranksAsymmetricRow : OpenClaim := { program := "qxb6601216a", sum := "185b5a32bc03bb8245a3c65216b582c87caa1a5042a5493c3af32fcb04df6cf6", func := "example.com/driftline/driftline/zzlaws_internal_agent_b1.FnOutranksAsymmetric", spec := "fnOutranksAsymmetric", apart := false }
def FnOutranksAsymmetricSaid : Prop := fnOutranksAsymmetricRow.holds Try.pinned (OpenSpec.ofChange fnOutranksAsymmetricSpec)

/-- ITS FALSE NEIGHBOUR: 'it returns false'. Refute it at one input. -/
def fnOutranksAsymmetricWrong : ChangeSpec := { name := "fnOutranksAsymmetric", fn := fun _ => fun
  | [d1, d2] => { results := [.lit (.bool false)], args := [d1, d2] }
  | _ => none }
def FnOutranksAsymmetricWrongFalsely : Prop := fnOutranksAsymmetricRow.holds Try.pinned (OpenSpec.ofChange fnOutranksAsymmetricWrong)

/-- 'zzlaws_internal_agent_b1.FnOutranksTransitiveAcrossNodes': WHATEVER THE INPUT: true; the input reads as it did. -/
def fnOutranksTransitiveAcrossNodesSpec : ChangeSpec := { name := "fnOutranksTransitiveAcrossNodes", fn := fun _ => fun
  | [d1, d2, d3] => { results := [.lit (.bool true)], args := [d1, d2, d3] }
  | _ => none }
def fnOutranksTransitiveAcrossNodesRow : OpenClaim := { program := "qxb6601216a", sum := "185b5a32bc03bb8245a3c65216b582c87caa1a5042a5493c3af32fcb04df6cf6", func := "example.com/driftline/driftline/zzlaws_internal_agent_b1.FnOutranksTransitiveAcrossNodes", spec := "fnOutranksTransitiveAcrossNodes", apart := false }
def FnOutranksTransitiveAcrossNodesSaid : Prop := fnOutranksTransitiveAcrossNodesRow.holds Try.pinned (OpenSpec.ofChange fnOutranksTransitiveAcrossNodesSpec)

/-- ITS FALSE NEIGHBOUR: 'it returns false'. Refute it at one input. -/
def fnOutranksTransitiveAcrossNodesWrong : ChangeSpec := { name := "fnOutranksTransitiveAcrossNodes", fn := fun _ => fun
  | [d1, d2, d3] => { results := [.lit (.bool false)], args := [d1, d2, d3] }
  | _ => none }
def FnOutranksTransitiveAcrossNodesWrongFalsely : Prop := fnOutranksTransitiveAcrossNodesRow.holds Try.pinned (OpenSpec.ofChange fnOutranksTransitiveAcrossNodesWrong)

/-- 'zzlaws_internal_agent_b1.FnOutranksSettlesEveryContest': WHATEVER THE INPUT: true; the input reads as it did. -/
def fnOutranksSettlesEveryContestSpec : ChangeSpec := { name := "fnOutranksSettlesEveryContest", fn := fun _ => fun
  | [d1, d2] => { results := [.lit (.bool true)], args := [d1, d2] }
  | _ => none }
def fnOutranksSettlesEveryContestRow : OpenClaim := { program := "qxb6601216a", sum := "185b5a32bc03bb8245a3c65216b582c87caa1a5042a5493c3af32fcb04df6cf6", func := "example.com/driftline/driftline/zzlaws_internal_agent_b1.FnOutranksSettlesEveryContest", spec := "fnOutranksSettlesEveryContest", apart := false }
def FnOutranksSettlesEveryContestSaid : Prop := fnOutranksSettlesEveryContestRow.holds Try.pinned (OpenSpec.ofChange fnOutranksSettlesEveryContestSpec)

/-- ITS FALSE NEIGHBOUR: 'it returns false'. Refute it at one input. -/
def fnOutranksSettlesEveryContestWrong : ChangeSpec := { name := "fnOutranksSettlesEveryContest", fn := fun _ => fun
  | [d1, d2] => { results := [.lit (.bool false)], args := [d1, d2] }
  | _ => none }
def FnOutranksSettlesEveryContestWrongFalsely : Prop := fnOutranksSettlesEveryContestRow.holds Try.pinned (OpenSpec.ofChange fnOutranksSettlesEveryContestWrong)

/-- 'zzlaws_internal_agent_b1.FnOutranksLaterGrantNeverLoses': WHATEVER THE INPUT: true; the input reads as it did. -/
def fnOutranksLaterGrantNeverLosesSpec : ChangeSpec := { name := "fnOutranksLaterGrantNeverLoses", fn := fun _ => fun
  | [d1, d2, d3] => { results := [.lit (.bool true)], args := [d1, d2, d3] }
  | _ => none }
def fnOutranksLaterGrantNeverLosesRow : OpenClaim := { program := "qxb6601216a", sum := "185b5a32bc03bb8245a3c65216b582c87caa1a5042a5493c3af32fcb04df6cf6", func := "example.com/driftline/driftline/zzlaws_internal_agent_b1.FnOutranksLaterGrantNeverLoses", spec := "fnOutranksLaterGrantNeverLoses", apart := false }
def FnOutranksLaterGrantNeverLosesSaid : Prop := fnOutranksLaterGrantNeverLosesRow.holds Try.pinned (OpenSpec.ofChange fnOutranksLaterGrantNeverLosesSpec)

/-- ITS FALSE NEIGHBOUR: 'it returns false'. Refute it at one input. -/
def fnOutranksLaterGrantNeverLosesWrong : ChangeSpec := { name := "fnOutranksLaterGrantNeverLoses", fn := fun _ => fun
  | [d1, d2, d3] => { results := [.lit (.bool false)], args := [d1, d2, d3] }
  | _ => none }
def FnOutranksLaterGrantNeverLosesWrongFalsely : Prop := fnOutranksLaterGrantNeverLosesRow.holds Try.pinned (OpenSpec.ofChange fnOutranksLaterGrantNeverLosesWrong)

end Rows
end Go.Proofs.Qxb6601216a
