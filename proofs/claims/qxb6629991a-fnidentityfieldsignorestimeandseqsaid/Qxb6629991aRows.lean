/-
  No cell of these rows narrows 'for every input' (looked for: loops, veiled, ifaces, maps, wideKeys, modest, calm, conditions, laid).
  DERIVED. THE GIVEN ROWS OF THIS SEAT. 2 by the template 'for every input the law returns true; each argument reads behind the call as it read before'; 0 by the template 'total and deterministic' (their statements: Qxb6629991aTotals.lean).
  GIVEN WITH THE SEED: the statements are not yours to turn. If you find one false, say at which input.
  Laid BY PROGRAM, IN A SANDBOX (cutbox-rows.mjs): the forced cells as the released guide's own fill.sh prints them over the translation 1b33116a248beda2… (all of the seat's roots in one cut). By AI agents, Wed Nov 11 2026. No macro, syntax, notation, axiom, sorry.
-/
import Derived.Test.Qxb6629991aChecked
import GoSem.Claim
import GoSem.ClaimJoined
import GoSem.ClaimMapViews
import Derived.JoinedTies
import Derived.KernelRfl
namespace Go.Proofs.Qxb6629991a
/- THE CELL 'sum', in the pinned program and in every row, IS THE sha256 OF THE DUMP (.gsa) THAT Qxb6629991aProg.lean LOADS. Nothing in Lean hashes anything: it is a label: what it is worth is what the hold of that sum in a sandbox is worth. -/
noncomputable def Try.pinned : Pinned := { name := "qxb6629991a", sum := "1b33116a248beda28a7dbe9d8c88e3d6150de102318672ed9efe0de9ab966d6f", checked := Try.checked }
namespace Rows
def none {H : Type} : Left H := { results := [], args := [] }

/-- 'zzlaws_root_b1.FnIdentityFieldsInsertOne': WHATEVER THE INPUT: true; the input reads as it did. -/
def fnIdentityFieldsInsertOneSpec : ChangeSpec := { name := "fnIdentityFieldsInsertOne", fn := fun _ => fun
  | [d1, d2, d3, d4] => { results := [.lit (.bool true)], args := [d1, d2, d3, d4] }
  | _ => none }
def fnIdentityFieldsInsertOneRow : OpenClaim := { program := "qxb6629991a", sum := "1b33116a248beda28a7dbe9d8c88e3d6150de102318672ed9efe0de9ab966d6f", func := "example.com/graupel/graupel/zzlaws_root_b1.FnIdentityFieldsInsertOne", spec := "fnIdentityFieldsInsertOne", apart := false }
def FnIdentityFieldsInsertOneSaid : Prop := fnIdentityFieldsInsertOneRow.holds Try.pinned (OpenSpec.ofChange fnIdentityFieldsInsertOneSpec)

/-- ITS FALSE NEIGHBOUR: 'it returns false'. Refute it at one input. -/
def fnIdentityFieldsInsertOneWrong : ChangeSpec := { name := "fnIdentityFieldsInsertOne", fn := fun _ => fun
  | [d1, d2, d3, d4] => { results := [.lit (.bool false)], args := [d1, d2, d3, d4] }
  | _ => none }
def FnIdentityFieldsInsertOneWrongFalsely : Prop := fnIdentityFieldsInsertOneRow.holds Try.pinned (OpenSpec.ofChange fnIdentityFieldsInsertOneWrong)

/-- 'zzlaws_root_b1.FnIdentityFieldsIgnoresTimeAndSeq': WHATEVER THE INPUT: true; the input reads as it did. -/
def fnIdentityFieldsIgnoresTimeAndSeqSpec : ChangeSpec := { name := "fnIdentityFieldsIgnoresTimeAndSeq", fn := fun _ => fun
  | [d1, d2, d3, d4] => { results := [.lit (.bool true)], args := [d1, d2, d3, d4] }
  | _ => none }
def fnIdentityFieldsIgnoresTimeAndSeqRow : OpenClaim := { program := "qxb6629991a", sum := "1b33116a248beda28a7dbe9d8c88e3d6150de102318672ed9efe0de9ab966d6f", func := "example.com/graupel/graupel/zzlaws_root_b1.FnIdentityFieldsIgnoresTimeAndSeq", spec := "fnIdentityFieldsIgnoresTimeAndSeq", apart := false }
def FnIdentityFieldsIgnoresTimeAndSeqSaid : Prop := fnIdentityFieldsIgnoresTimeAndSeqRow.holds Try.pinned (OpenSpec.ofChange fnIdentityFieldsIgnoresTimeAndSeqSpec)

/-- ITS FALSE NEIGHBOUR: 'it returns false'. Refute it at one input. -/
def fnIdentityFieldsIgnoresTimeAndSeqWrong : ChangeSpec := { name := "fnIdentityFieldsIgnoresTimeAndSeq", fn := fun _ => fun
  | [d1, d2, d3, d4] => { results := [.lit (.bool false)], args := [d1, d2, d3, d4] }
  | _ => none }
def FnIdentityFieldsIgnoresTimeAndSeqWrongFalsely : Prop := fnIdentityFieldsIgnoresTimeAndSeqRow.holds Try.pinned (OpenSpec.ofChange fnIdentityFieldsIgnoresTimeAndSeqWrong)

end Rows
end Go.Proofs.Qxb6629991a
