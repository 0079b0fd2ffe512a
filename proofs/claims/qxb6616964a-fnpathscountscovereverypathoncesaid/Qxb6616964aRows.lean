/-
  No cell of these rows narrows 'for every input' (looked for: loops, veiled, ifaces, maps, wideKeys, modest, calm, conditions, laid).
  DERIVED. THE GIVEN ROWS OF THIS SEAT. 2 by the template 'for every input the law returns true; each argument reads behind the call as it read before'; 0 by the template 'total and deterministic' (their statements: Qxb6616964aTotals.lean).
  GIVEN WITH THE SEED: the statements are not yours to turn. If you find one false, say at which input.
  Laid BY PROGRAM, IN A SANDBOX (cutbox-rows.mjs): the forced cells as the released guide's own fill.sh prints them over the translation ea56f03ad79bc060… (all of the seat's roots in one cut). By AI agents, Wed Nov 11 2026. No macro, syntax, notation, axiom, sorry.
-/
import Derived.Test.Qxb6616964aChecked
import GoSem.Claim
import GoSem.ClaimJoined
import GoSem.ClaimMapViews
import Derived.JoinedTies
import Derived.KernelRfl
namespace Go.Proofs.Qxb6616964a
/- THE CELL 'sum', in the pinned program and in every row, IS THE sha256 OF THE DUMP (.gsa) THAT Qxb6616964aProg.lean LOADS. Nothing in Lean hashes anything: it is a label: what it is worth is what the hold of that sum in a sandbox is worth. -/
noncomputable def Try.pinned : Pinned := { name := "qxb6616964a", sum := "ea56f03ad79bc060386fa6aaca72839759d89e342953ca7f89748c7117c9b8b7", checked := Try.checked }
namespace Rows
def none {H : Type} : Left H := { results := [], args := [] }

/-- 'zzlaws_topology_b1.FnPathsCountIsRunOfPairRank': WHATEVER THE INPUT: true; the input reads as it did. -/
def fnPathsCountIsRunOfPairRankSpec : ChangeSpec := { name := "fnPathsCountIsRunOfPairRank", fn := fun _ => fun
  | [d1, d2, d3, d4, d5, d6, d7] => { results := [.lit (.bool true)], args := [d1, d2, d3, d4, d5, d6, d7] }
  | _ => none }
def fnPathsCountIsRunOfPairRankRow : OpenClaim := { program := "qxb6616964a", sum := "ea56f03ad79bc060386fa6aaca72839759d89e342953ca7f89748c7117c9b8b7", func := "example.com/plenum/plenum/zzlaws_topology_b1.FnPathsCountIsRunOfPairRank", spec := "fnPathsCountIsRunOfPairRank", apart := false }
def FnPathsCountIsRunOfPairRankSaid : Prop := fnPathsCountIsRunOfPairRankRow.holds Try.pinned (OpenSpec.ofChange fnPathsCountIsRunOfPairRankSpec)

/-- ITS FALSE NEIGHBOUR: 'it returns false'. Refute it at one input. -/
def fnPathsCountIsRunOfPairRankWrong : ChangeSpec := { name := "fnPathsCountIsRunOfPairRank", fn := fun _ => fun
  | [d1, d2, d3, d4, d5, d6, d7] => { results := [.lit (.bool false)], args := [d1, d2, d3, d4, d5, d6, d7] }
  | _ => none }
def FnPathsCountIsRunOfPairRankWrongFalsely : Prop := fnPathsCountIsRunOfPairRankRow.holds Try.pinned (OpenSpec.ofChange fnPathsCountIsRunOfPairRankWrong)

/-- 'zzlaws_topology_b1.FnPathsCountsCoverEveryPathOnce': WHATEVER THE INPUT: true; the input reads as it did. -/
def fnPathsCountsCoverEveryPathOnceSpec : ChangeSpec := { name := "fnPathsCountsCoverEveryPathOnce", fn := fun _ => fun
  | [d1, d2, d3, d4, d5] => { results := [.lit (.bool true)], args := [d1, d2, d3, d4, d5] }
  | _ => none }
def fnPathsCountsCoverEveryPathOnceRow : OpenClaim := { program := "qxb6616964a", sum := "ea56f03ad79bc060386fa6aaca72839759d89e342953ca7f89748c7117c9b8b7", func := "example.com/plenum/plenum/zzlaws_topology_b1.FnPathsCountsCoverEveryPathOnce", spec := "fnPathsCountsCoverEveryPathOnce", apart := false }
def FnPathsCountsCoverEveryPathOnceSaid : Prop := fnPathsCountsCoverEveryPathOnceRow.holds Try.pinned (OpenSpec.ofChange fnPathsCountsCoverEveryPathOnceSpec)

/-- ITS FALSE NEIGHBOUR: 'it returns false'. Refute it at one input. -/
def fnPathsCountsCoverEveryPathOnceWrong : ChangeSpec := { name := "fnPathsCountsCoverEveryPathOnce", fn := fun _ => fun
  | [d1, d2, d3, d4, d5] => { results := [.lit (.bool false)], args := [d1, d2, d3, d4, d5] }
  | _ => none }
def FnPathsCountsCoverEveryPathOnceWrongFalsely : Prop := fnPathsCountsCoverEveryPathOnceRow.holds Try.pinned (OpenSpec.ofChange fnPathsCountsCoverEveryPathOnceWrong)

end Rows
end Go.Proofs.Qxb6616964a
