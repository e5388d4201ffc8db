/-
  No cell of these rows narrows 'for every input' (looked for: loops, veiled, ifaces, maps, wideKeys, modest, calm, conditions, laid).
  DERIVED. THE GIVEN ROWS OF THIS SEAT. 5 by the template 'for every input the law returns true; each argument reads behind the call as it read before'; 0 by the template 'total and deterministic' (their statements: Qxb6612885aTotals.lean).
  GIVEN WITH THE SEED: the statements are not yours to turn. If you find one false, say at which input.
  Laid BY PROGRAM, IN A SANDBOX (cutbox-rows.mjs): the forced cells as the released guide's own fill.sh prints them over the translation 8b3d87baa108e4a5… (all of the seat's roots in one cut). By AI agents, Wed Nov 11 2026. No macro, syntax, notation, axiom, sorry.
-/
import Derived.Test.Qxb6612885aChecked
import GoSem.Claim
import GoSem.ClaimJoined
import GoSem.ClaimMapViews
import Derived.JoinedTies
import Derived.KernelRfl
namespace Go.Proofs.Qxb6612885a
/- THE CELL 'sum', in the pinned program and in every row, IS THE sha256 OF THE DUMP (.gsa) THAT Qxb6612885aProg.lean LOADS. Nothing in Lean hashes anything: it is a label: what it is worth is what the hold of that sum in a sandbox is worth. -/
noncomputable def Try.pinned : Pinned := { name := "qxb6612885a", sum := "8b3d87baa108e4a50a4ae1dab0b951db4d2f51615b5f7c8f408cf22bcfb26156", checked := Try.checked }
namespace Rows
def none {H : Type} : Left H := { results := [], args := [] }

/-- 'zzlaws_internal_choke_b1.FnMayTakeFillsExactlyToMaxConns': WHATEVER THE INPUT: true; the input reads as it did. -/
def fnMayTakeFillsExactlyToMaxConnsSpec : ChangeSpec := { name := "fnMayTakeFillsExactlyToMaxConns", fn := fun _ => fun
  | [d] => { results := [.lit (.bool true)], args := [d] }
  | _ => none }
def fnMayTakeFillsExactlyToMaxConnsRow : OpenClaim := { program := "qxb6612885a", sum := "8b3d87baa108e4a50a4ae1dab0b951db4d2f51615b5f7c8f408cf22bcfb26156", func := "example.com/murmuration/murmuration/zzlaws_internal_choke_b1.FnMayTakeFillsExactlyToMaxConns", spec := "fnMayTakeFillsExactlyToMaxConns", apart := false }
def FnMayTakeFillsExactlyToMaxConnsSaid : Prop := fnMayTakeFillsExactlyToMaxConnsRow.holds Try.pinned (OpenSpec.ofChange fnMayTakeFillsExactlyToMaxConnsSpec)

/-- ITS FALSE NEIGHBOUR: 'it returns false'. Refute it at one input. -/
def fnMayTakeFillsExactlyToMaxConnsWrong : ChangeSpec := { name := "fnMayTakeFillsExactlyToMaxConns", fn := fun _ => fun
  | [d] => { results := [.lit (.bool false)], args := [d] }
  | _ => none }
def FnMayTakeFillsExactlyToMaxConnsWrongFalsely : Prop := fnMayTakeFillsExactlyToMaxConnsRow.holds Try.pinned (OpenSpec.ofChange fnMayTakeFillsExactlyToMaxConnsWrong)

/-- 'zzlaws_internal_choke_b1.FnDownloadRoundMatchesRankModel': WHATEVER THE INPUT: true; the input reads as it did. -/
def fnDownloadRoundMatchesRankModelSpec : ChangeSpec := { name := "fnDownloadRoundMatchesRankModel", fn := fun _ => fun
  | [d1, d2, d3, d4, d5, d6] => { results := [.lit (.bool true)], args := [d1, d2, d3, d4, d5, d6] }
  | _ => none }
def fnDownloadRoundMatchesRankModelRow : OpenClaim := { program := "qxb6612885a", sum := "8b3d87baa108e4a50a4ae1dab0b951db4d2f51615b5f7c8f408cf22bcfb26156", func := "example.com/murmuration/murmuration/zzlaws_internal_choke_b1.FnDownloadRoundMatchesRankModel", spec := "fnDownloadRoundMatchesRankModel", inPlace := ["internal/reflectlite.ValueOf", "internal/reflectlite.Swapper", "(internal/reflectlite.Value).Len"], unfollowed := true, recurses := true, apart := false }
def FnDownloadRoundMatchesRankModelSaid : Prop := fnDownloadRoundMatchesRankModelRow.holds Try.pinned (OpenSpec.ofChange fnDownloadRoundMatchesRankModelSpec)

/-- ITS FALSE NEIGHBOUR: 'it returns false'. Refute it at one input. -/
def fnDownloadRoundMatchesRankModelWrong : ChangeSpec := { name := "fnDownloadRoundMatchesRankModel", fn := fun _ => fun
  | [d1, d2, d3, d4, d5, d6] => { results := [.lit (.bool false)], args := [d1, d2, d3, d4, d5, d6] }
  | _ => none }
def FnDownloadRoundMatchesRankModelWrongFalsely : Prop := fnDownloadRoundMatchesRankModelRow.holds Try.pinned (OpenSpec.ofChange fnDownloadRoundMatchesRankModelWrong)

/-- 'zzlaws_internal_choke_b1.FnDownloadRoundReplayKeeps': WHATEVER THE INPUT: true; the input reads as it did. -/
def fnDownloadRoundReplayKeepsSpec : ChangeSpec := { name := "fnDownloadRoundReplayKeeps", fn := fun _ => fun
  | [d1, d2, d3, d4, d5, d6] => { results := [.lit (.bool true)], args := [d1, d2, d3, d4, d5, d6] }
  | _ => none }
def fnDownloadRoundReplayKeepsRow : OpenClaim := { program := "qxb6612885a", sum := "8b3d87baa108e4a50a4ae1dab0b951db4d2f51615b5f7c8f408cf22bcfb26156", func := "example.com/murmuration/murmuration/zzlaws_internal_choke_b1.FnDownloadRoundReplayKeeps", spec := "fnDownloadRoundReplayKeeps", inPlace := ["internal/reflectlite.ValueOf", "internal/reflectlite.Swapper", "(internal/reflectlite.Value).Len"], unfollowed := true, recurses := true, apart := false }
def FnDownloadRoundReplayKeepsSaid : Prop := fnDownloadRoundReplayKeepsRow.holds Try.pinned (OpenSpec.ofChange fnDownloadRoundReplayKeepsSpec)

/-- ITS FALSE NEIGHBOUR: 'it returns false'. Refute it at one input. -/
def fnDownloadRoundReplayKeepsWrong : ChangeSpec := { name := "fnDownloadRoundReplayKeeps", fn := fun _ => fun
  | [d1, d2, d3, d4, d5, d6] => { results := [.lit (.bool false)], args := [d1, d2, d3, d4, d5, d6] }
  | _ => none }
def FnDownloadRoundReplayKeepsWrongFalsely : Prop := fnDownloadRoundReplayKeepsRow.holds Try.pinned (OpenSpec.ofChange fnDownloadRoundReplayKeepsWrong)

/-- 'zzlaws_internal_choke_b1.FnSeedRoundMatchesRankModel': WHATEVER THE INPUT: true; the input reads as it did. -/
def fnSeedRoundMatchesRankModelSpec : ChangeSpec := { name := "fnSeedRoundMatchesRankModel", fn := fun _ => fun
  | [d1, d2, d3, d4, d5, d6] => { results := [.lit (.bool true)], args := [d1, d2, d3, d4, d5, d6] }
  | _ => none }
def fnSeedRoundMatchesRankModelRow : OpenClaim := { program := "qxb6612885a", sum := "8b3d87baa108e4a50a4ae1dab0b951db4d2f51615b5f7c8f408cf22bcfb26156", func := "example.com/murmuration/murmuration/zzlaws_internal_choke_b1.FnSeedRoundMatchesRankModel", spec := "fnSeedRoundMatchesRankModel", inPlace := ["internal/reflectlite.ValueOf", "internal/reflectlite.Swapper", "(internal/reflectlite.Value).Len"], unfollowed := true, recurses := true, apart := false }
def FnSeedRoundMatchesRankModelSaid : Prop := fnSeedRoundMatchesRankModelRow.holds Try.pinned (OpenSpec.ofChange fnSeedRoundMatchesRankModelSpec)

/-- ITS FALSE NEIGHBOUR: 'it returns false'. Refute it at one input. -/
def fnSeedRoundMatchesRankModelWrong : ChangeSpec := { name := "fnSeedRoundMatchesRankModel", fn := fun _ => fun
  | [d1, d2, d3, d4, d5, d6] => { results := [.lit (.bool false)], args := [d1, d2, d3, d4, d5, d6] }
  | _ => none }
def FnSeedRoundMatchesRankModelWrongFalsely : Prop := fnSeedRoundMatchesRankModelRow.holds Try.pinned (OpenSpec.ofChange fnSeedRoundMatchesRankModelWrong)

/-- 'zzlaws_internal_choke_b1.FnSeedRoundThenQuietRoundKeeps': WHATEVER THE INPUT: true; the input reads as it did. -/
def fnSeedRoundThenQuietRoundKeepsSpec : ChangeSpec := { name := "fnSeedRoundThenQuietRoundKeeps", fn := fun _ => fun
  | [d1, d2, d3, d4, d5, d6] => { results := [.lit (.bool true)], args := [d1, d2, d3, d4, d5, d6] }
  | _ => none }
def fnSeedRoundThenQuietRoundKeepsRow : OpenClaim := { program := "qxb6612885a", sum := "8b3d87baa108e4a50a4ae1dab0b951db4d2f51615b5f7c8f408cf22bcfb26156", func := "example.com/murmuration/murmuration/zzlaws_internal_choke_b1.FnSeedRoundThenQuietRoundKeeps", spec := "fnSeedRoundThenQuietRoundKeeps", inPlace := ["internal/reflectlite.ValueOf", "internal/reflectlite.Swapper", "(internal/reflectlite.Value).Len"], unfollowed := true, recurses := true, apart := false }
def FnSeedRoundThenQuietRoundKeepsSaid : Prop := fnSeedRoundThenQuietRoundKeepsRow.holds Try.pinned (OpenSpec.ofChange fnSeedRoundThenQuietRoundKeepsSpec)

/-- ITS FALSE NEIGHBOUR: 'it returns false'. Refute it at one input. -/
def fnSeedRoundThenQuietRoundKeepsWrong : ChangeSpec := { name := "fnSeedRoundThenQuietRoundKeeps", fn := fun _ => fun
  | [d1, d2, d3, d4, d5, d6] => { results := [.lit (.bool false)], args := [d1, d2, d3, d4, d5, d6] }
  | _ => none }
def FnSeedRoundThenQuietRoundKeepsWrongFalsely : Prop := fnSeedRoundThenQuietRoundKeepsRow.holds Try.pinned (OpenSpec.ofChange fnSeedRoundThenQuietRoundKeepsWrong)

end Rows
end Go.Proofs.Qxb6612885a
