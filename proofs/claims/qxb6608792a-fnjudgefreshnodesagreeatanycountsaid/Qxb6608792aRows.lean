/-
  No cell of these rows narrows 'for every input' (looked for: loops, veiled, ifaces, maps, wideKeys, modest, calm, conditions, laid).
  DERIVED. THE GIVEN ROWS OF THIS SEAT. 2 by the template 'for every input the law returns true; each argument reads behind the call as it read before'; 0 by the template 'total and deterministic' (their statements: Qxb6608792aTotals.lean).
  GIVEN WITH THE SEED: the statements are not yours to turn. If you find one false, say at which input.
  Laid BY PROGRAM, IN A SANDBOX (cutbox-rows.mjs): the forced cells as the released guide's own fill.sh prints them over the translation 35de6d9a2b313657… (all of the seat's roots in one cut). By AI agents, Wed Nov 11 2026. No macro, syntax, notation, axiom, sorry.
-/
import Derived.Test.Qxb6608792aChecked
import GoSem.Claim
import GoSem.ClaimJoined
import GoSem.ClaimMapViews
import Derived.JoinedTies
import Derived.KernelRfl
namespace Go.Proofs.Qxb6608792a
/- THE CELL 'sum', in the pinned program and in every row, IS THE sha256 OF THE DUMP (.gsa) THAT Qxb6608792aProg.lean LOADS. Nothing in Lean hashes anything: it is a label: what it is worth is what the hold of that sum in a sandbox is worth. -/
noncomputable def Try.pinned : Pinned := { name := "qxb6608792a", sum := "35de6d9a2b3136576b6d19e570e4b2d40b90489bb65f03f2302f89fb0c1b1069", checked := Try.checked }
namespace Rows
def none {H : Type} : Left H := { results := [], args := [] }

/-- 'zzlaws_pkg_sim_b1.FnHearingAnsweringOneMoreSilentOneFewer': WHATEVER THE INPUT: true; the input reads as it did. -/
def fnHearingAnsweringOneMoreSilentOneFewerSpec : ChangeSpec := { name := "fnHearingAnsweringOneMoreSilentOneFewer", fn := fun _ => fun
  | [d1, d2, d3, d4, d5, d6, d7, d8, d9, d10] => { results := [.lit (.bool true)], args := [d1, d2, d3, d4, d5, d6, d7, d8, d9, d10] }
  | _ => none }
def fnHearingAnsweringOneMoreSilentOneFewerRow : OpenClaim := { program := "qxb6608792a", sum := "35de6d9a2b3136576b6d19e570e4b2d40b90489bb65f03f2302f89fb0c1b1069", func := "example.com/murmuration/murmuration/zzlaws_pkg_sim_b1.FnHearingAnsweringOneMoreSilentOneFewer", spec := "fnHearingAnsweringOneMoreSilentOneFewer", apart := false }
def FnHearingAnsweringOneMoreSilentOneFewerSaid : Prop := fnHearingAnsweringOneMoreSilentOneFewerRow.holds Try.pinned (OpenSpec.ofChange fnHearingAnsweringOneMoreSilentOneFewerSpec)

/-- ITS FALSE NEIGHBOUR: 'it returns false'. Refute it at one input. -/
def fnHearingAnsweringOneMoreSilentOneFewerWrong : ChangeSpec := { name := "fnHearingAnsweringOneMoreSilentOneFewer", fn := fun _ => fun
  | [d1, d2, d3, d4, d5, d6, d7, d8, d9, d10] => { results := [.lit (.bool false)], args := [d1, d2, d3, d4, d5, d6, d7, d8, d9, d10] }
  | _ => none }
def FnHearingAnsweringOneMoreSilentOneFewerWrongFalsely : Prop := fnHearingAnsweringOneMoreSilentOneFewerRow.holds Try.pinned (OpenSpec.ofChange fnHearingAnsweringOneMoreSilentOneFewerWrong)

/-- 'zzlaws_pkg_sim_b1.FnJudgeFreshNodesAgreeAtAnyCount': WHATEVER THE INPUT: true; the input reads as it did. -/
def fnJudgeFreshNodesAgreeAtAnyCountSpec : ChangeSpec := { name := "fnJudgeFreshNodesAgreeAtAnyCount", fn := fun _ => fun
  | [d1, d2, d3, d4] => { results := [.lit (.bool true)], args := [d1, d2, d3, d4] }
  | _ => none }
def fnJudgeFreshNodesAgreeAtAnyCountRow : OpenClaim := { program := "qxb6608792a", sum := "35de6d9a2b3136576b6d19e570e4b2d40b90489bb65f03f2302f89fb0c1b1069", func := "example.com/murmuration/murmuration/zzlaws_pkg_sim_b1.FnJudgeFreshNodesAgreeAtAnyCount", spec := "fnJudgeFreshNodesAgreeAtAnyCount", unfollowed := true, recurses := true, apart := false }
def FnJudgeFreshNodesAgreeAtAnyCountSaid : Prop := fnJudgeFreshNodesAgreeAtAnyCountRow.holds Try.pinned (OpenSpec.ofChange fnJudgeFreshNodesAgreeAtAnyCountSpec)

/-- ITS FALSE NEIGHBOUR: 'it returns false'. Refute it at one input. -/
def fnJudgeFreshNodesAgreeAtAnyCountWrong : ChangeSpec := { name := "fnJudgeFreshNodesAgreeAtAnyCount", fn := fun _ => fun
  | [d1, d2, d3, d4] => { results := [.lit (.bool false)], args := [d1, d2, d3, d4] }
  | _ => none }
def FnJudgeFreshNodesAgreeAtAnyCountWrongFalsely : Prop := fnJudgeFreshNodesAgreeAtAnyCountRow.holds Try.pinned (OpenSpec.ofChange fnJudgeFreshNodesAgreeAtAnyCountWrong)

end Rows
end Go.Proofs.Qxb6608792a
