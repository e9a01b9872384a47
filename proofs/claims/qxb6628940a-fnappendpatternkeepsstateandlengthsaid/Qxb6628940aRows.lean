/-
  No cell of these rows narrows 'for every input' (looked for: loops, veiled, ifaces, maps, wideKeys, modest, calm, conditions, laid).
  DERIVED. THE GIVEN ROWS OF THIS SEAT. 2 by the template 'for every input the law returns true; each argument reads behind the call as it read before'; 0 by the template 'total and deterministic' (their statements: Qxb6628940aTotals.lean).
  GIVEN WITH THE SEED: the statements are not yours to turn. If you find one false, say at which input.
  Laid BY PROGRAM, IN A SANDBOX (cutbox-rows.mjs): the forced cells as the released guide's own fill.sh prints them over the translation 390e967f9455f37d… (all of the seat's roots in one cut). By AI agents, Wed Nov 11 2026. No macro, syntax, notation, axiom, sorry.
-/
import Derived.Test.Qxb6628940aChecked
import GoSem.Claim
import GoSem.ClaimJoined
import GoSem.ClaimMapViews
import Derived.JoinedTies
import Derived.KernelRfl
namespace Go.Proofs.Qxb6628940a
/- THE CELL 'sum', in the pinned program and in every row, IS THE sha256 OF THE DUMP (.gsa) THAT Qxb6628940aProg.lean LOADS. Nothing in Lean hashes anything: it is a label: what it is worth is what the hold of that sum in a sandbox is worth. -/
noncomputable def Try.pinned : Pinned := { name := "qxb6628940a", sum := "390e967f9455f37dbb2cdf2e39267dcdac8a9674d71a0bad6813865ab6afeeac", checked := Try.checked }
namespace Rows
def none {H : Type} : Left H := { results := [], args := [] }

/-- 'zzlaws_internal_wildcard_b1.FnAppendPatternSplitAndDecode': WHATEVER THE INPUT: true; the input reads as it did. -/
def fnAppendPatternSplitAndDecodeSpec : ChangeSpec := { name := "fnAppendPatternSplitAndDecode", fn := fun _ => fun
  | [d1, d2, d3] => { results := [.lit (.bool true)], args := [d1, d2, d3] }
  | _ => none }
def fnAppendPatternSplitAndDecodeRow : OpenClaim := { program := "qxb6628940a", sum := "390e967f9455f37dbb2cdf2e39267dcdac8a9674d71a0bad6813865ab6afeeac", func := "example.com/firethorn/firethorn/zzlaws_internal_wildcard_b1.FnAppendPatternSplitAndDecode", spec := "fnAppendPatternSplitAndDecode", apart := false }
def FnAppendPatternSplitAndDecodeSaid : Prop := fnAppendPatternSplitAndDecodeRow.holds Try.pinned (OpenSpec.ofChange fnAppendPatternSplitAndDecodeSpec)

/-- ITS FALSE NEIGHBOUR: 'it returns false'. Refute it at one input. -/
def fnAppendPatternSplitAndDecodeWrong : ChangeSpec := { name := "fnAppendPatternSplitAndDecode", fn := fun _ => fun
  | [d1, d2, d3] => { results := [.lit (.bool false)], args := [d1, d2, d3] }
  | _ => none }
def FnAppendPatternSplitAndDecodeWrongFalsely : Prop := fnAppendPatternSplitAndDecodeRow.holds Try.pinned (OpenSpec.ofChange fnAppendPatternSplitAndDecodeWrong)

/-- 'zzlaws_internal_wildcard_b1.FnAppendPatternKeepsStateAndLength': WHATEVER THE INPUT: true; the input reads as it did. -/
def fnAppendPatternKeepsStateAndLengthSpec : ChangeSpec := { name := "fnAppendPatternKeepsStateAndLength", fn := fun _ => fun
  | [d1, d2] => { results := [.lit (.bool true)], args := [d1, d2] }
  | _ => none }
def fnAppendPatternKeepsStateAndLengthRow : OpenClaim := { program := "qxb6628940a", sum := "390e967f9455f37dbb2cdf2e39267dcdac8a9674d71a0bad6813865ab6afeeac", func := "example.com/firethorn/firethorn/zzlaws_internal_wildcard_b1.FnAppendPatternKeepsStateAndLength", spec := "fnAppendPatternKeepsStateAndLength", apart := false }
def FnAppendPatternKeepsStateAndLengthSaid : Prop := fnAppendPatternKeepsStateAndLengthRow.holds Try.pinned (OpenSpec.ofChange fnAppendPatternKeepsStateAndLengthSpec)

/-- ITS FALSE NEIGHBOUR: 'it returns false'. Refute it at one input. -/
def fnAppendPatternKeepsStateAndLengthWrong : ChangeSpec := { name := "fnAppendPatternKeepsStateAndLength", fn := fun _ => fun
  | [d1, d2] => { results := [.lit (.bool false)], args := [d1, d2] }
  | _ => none }
def FnAppendPatternKeepsStateAndLengthWrongFalsely : Prop := fnAppendPatternKeepsStateAndLengthRow.holds Try.pinned (OpenSpec.ofChange fnAppendPatternKeepsStateAndLengthWrong)

end Rows
end Go.Proofs.Qxb6628940a
