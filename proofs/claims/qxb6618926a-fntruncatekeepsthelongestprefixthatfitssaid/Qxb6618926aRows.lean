/-
  No cell of these rows narrows 'for every input' (looked for: loops, veiled, ifaces, maps, wideKeys, modest, calm, conditions, laid).
  DERIVED. THE GIVEN ROWS OF THIS SEAT. 2 by the template 'for every input the law returns true; each argument reads behind the call as it read before'; 0 by the template 'total and deterministic' (their statements: Qxb6618926aTotals.lean).
  GIVEN WITH THE SEED: the statements are not yours to turn. If you find one false, say at which input.
  Laid BY PROGRAM, IN A SANDBOX (cutbox-rows.mjs): the forced cells as the released guide's own fill.sh prints them over the translation f07ab407f553fe05… (all of the seat's roots in one cut). By AI agents, Wed Nov 11 2026. No macro, syntax, notation, axiom, sorry.
-/
import Derived.Test.Qxb6618926aChecked
import GoSem.Claim
import GoSem.ClaimJoined
import GoSem.ClaimMapViews
import Derived.JoinedTies
import Derived.KernelRfl
namespace Go.Proofs.Qxb6618926a
/- THE CELL 'sum', in the pinned program and in every row, IS THE sha256 OF THE DUMP (.gsa) THAT Qxb6618926aProg.lean LOADS. Nothing in Lean hashes anything: it is a label: what it is worth is what the hold of that sum in a sandbox is worth. -/
noncomputable def Try.pinned : Pinned := { name := "qxb6618926a", sum := "f07ab407f553fe057845fc9a4444fd92de52bbe2a360742649fe221e3bdb31b2", checked := Try.checked }
namespace Rows
def none {H : Type} : Left H := { results := [], args := [] }

/-- 'zzlaws_internal_patrol_b1.FnTruncateKeepsAPrefixAndIgnoresWhatFollowsACut': WHATEVER THE INPUT: true; the input reads as it did. -/
def fnTruncateKeepsAPrefixAndIgnoresWhatFollowsACutSpec : ChangeSpec := { name := "fnTruncateKeepsAPrefixAndIgnoresWhatFollowsACut", fn := fun _ => fun
  | [d1, d2] => { results := [.lit (.bool true)], args := [d1, d2] }
  | _ => none }
def fnTruncateKeepsAPrefixAndIgnoresWhatFollowsACutRow : OpenClaim := { program := "qxb6618926a", sum := "f07ab407f553fe057845fc9a4444fd92de52bbe2a360742649fe221e3bdb31b2", func := "example.com/lookout/lookout/zzlaws_internal_patrol_b1.FnTruncateKeepsAPrefixAndIgnoresWhatFollowsACut", spec := "fnTruncateKeepsAPrefixAndIgnoresWhatFollowsACut", inPlace := ["internal/abi.NoEscape"], unfollowed := true, recurses := true, apart := false }
def FnTruncateKeepsAPrefixAndIgnoresWhatFollowsACutSaid : Prop := fnTruncateKeepsAPrefixAndIgnoresWhatFollowsACutRow.holds Try.pinned (OpenSpec.ofChange fnTruncateKeepsAPrefixAndIgnoresWhatFollowsACutSpec)

/-- ITS FALSE NEIGHBOUR: 'it returns false'. Refute it at one input. -/
def fnTruncateKeepsAPrefixAndIgnoresWhatFollowsACutWrong : ChangeSpec := { name := "fnTruncateKeepsAPrefixAndIgnoresWhatFollowsACut", fn := fun _ => fun
  | [d1, d2] => { results := [.lit (.bool false)], args := [d1, d2] }
  | _ => none }
def FnTruncateKeepsAPrefixAndIgnoresWhatFollowsACutWrongFalsely : Prop := fnTruncateKeepsAPrefixAndIgnoresWhatFollowsACutRow.holds Try.pinned (OpenSpec.ofChange fnTruncateKeepsAPrefixAndIgnoresWhatFollowsACutWrong)

/-- 'zzlaws_internal_patrol_b1.FnTruncateKeepsTheLongestPrefixThatFits': WHATEVER THE INPUT: true; the input reads as it did. -/
def fnTruncateKeepsTheLongestPrefixThatFitsSpec : ChangeSpec := { name := "fnTruncateKeepsTheLongestPrefixThatFits", fn := fun _ => fun
  | [d] => { results := [.lit (.bool true)], args := [d] }
  | _ => none }
def fnTruncateKeepsTheLongestPrefixThatFitsRow : OpenClaim := { program := "qxb6618926a", sum := "f07ab407f553fe057845fc9a4444fd92de52bbe2a360742649fe221e3bdb31b2", func := "example.com/lookout/lookout/zzlaws_internal_patrol_b1.FnTruncateKeepsTheLongestPrefixThatFits", spec := "fnTruncateKeepsTheLongestPrefixThatFits", inPlace := ["internal/abi.NoEscape"], unfollowed := true, recurses := true, apart := false }
def FnTruncateKeepsTheLongestPrefixThatFitsSaid : Prop := fnTruncateKeepsTheLongestPrefixThatFitsRow.holds Try.pinned (OpenSpec.ofChange fnTruncateKeepsTheLongestPrefixThatFitsSpec)

/-- ITS FALSE NEIGHBOUR: 'it returns false'. Refute it at one input. -/
def fnTruncateKeepsTheLongestPrefixThatFitsWrong : ChangeSpec := { name := "fnTruncateKeepsTheLongestPrefixThatFits", fn := fun _ => fun
  | [d] => { results := [.lit (.bool false)], args := [d] }
  | _ => none }
def FnTruncateKeepsTheLongestPrefixThatFitsWrongFalsely : Prop := fnTruncateKeepsTheLongestPrefixThatFitsRow.holds Try.pinned (OpenSpec.ofChange fnTruncateKeepsTheLongestPrefixThatFitsWrong)

end Rows
end Go.Proofs.Qxb6618926a
