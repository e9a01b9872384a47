/-
  No cell of these rows narrows 'for every input' (looked for: loops, veiled, ifaces, maps, wideKeys, modest, calm, conditions, laid).
  DERIVED. THE GIVEN ROWS OF THIS SEAT. 2 by the template 'for every input the law returns true; each argument reads behind the call as it read before'; 0 by the template 'total and deterministic' (their statements: Qxb6628972aTotals.lean).
  GIVEN WITH THE SEED: the statements are not yours to turn. If you find one false, say at which input.
  Laid BY PROGRAM, IN A SANDBOX (cutbox-rows.mjs): the forced cells as the released guide's own fill.sh prints them over the translation 1a184c514106fe60… (all of the seat's roots in one cut). By AI agents, Wed Nov 11 2026. No macro, syntax, notation, axiom, sorry.
-/
import Derived.Test.Qxb6628972aChecked
import GoSem.Claim
import GoSem.ClaimJoined
import GoSem.ClaimMapViews
import Derived.JoinedTies
import Derived.KernelRfl
namespace Go.Proofs.Qxb6628972a
/- THE CELL 'sum', in the pinned program and in every row, IS THE sha256 OF THE DUMP (.gsa) THAT Qxb6628972aProg.lean LOADS. Nothing in Lean hashes anything: it is a label: what it is worth is what the hold of that sum in a sandbox is worth. -/
noncomputable def Try.pinned : Pinned := { name := "qxb6628972a", sum := "1a184c514106fe60b8438f2bf3253cbeede8b35fe1422b0d912026f3dd4d3c7a", checked := Try.checked }
namespace Rows
def none {H : Type} : Left H := { results := [], args := [] }

/-- 'zzlaws_pkg_track_b1.FnCountPartitionsEpisodesByStatus': WHATEVER THE INPUT: true; the input reads as it did. -/
def fnCountPartitionsEpisodesByStatusSpec : ChangeSpec := { name := "fnCountPartitionsEpisodesByStatus", fn := fun _ => fun
  | [d1, d2, d3, d4] => { results := [.lit (.bool true)], args := [d1, d2, d3, d4] }
  | _ => none }
def fnCountPartitionsEpisodesByStatusRow : OpenClaim := { program := "qxb6628972a", sum := "1a184c514106fe60b8438f2bf3253cbeede8b35fe1422b0d912026f3dd4d3c7a", func := "example.com/tuoguan/tuoguan/zzlaws_pkg_track_b1.FnCountPartitionsEpisodesByStatus", spec := "fnCountPartitionsEpisodesByStatus", apart := false }
def FnCountPartitionsEpisodesByStatusSaid : Prop := fnCountPartitionsEpisodesByStatusRow.holds Try.pinned (OpenSpec.ofChange fnCountPartitionsEpisodesByStatusSpec)

/-- ITS FALSE NEIGHBOUR: 'it returns false'. Refute it at one input. -/
def fnCountPartitionsEpisodesByStatusWrong : ChangeSpec := { name := "fnCountPartitionsEpisodesByStatus", fn := fun _ => fun
  | [d1, d2, d3, d4] => { results := [.lit (.bool false)], args := [d1, d2, d3, d4] }
  | _ => none }
def FnCountPartitionsEpisodesByStatusWrongFalsely : Prop := fnCountPartitionsEpisodesByStatusRow.holds Try.pinned (OpenSpec.ofChange fnCountPartitionsEpisodesByStatusWrong)

/-- 'zzlaws_pkg_track_b1.FnCountInsertRaisesOwnStatusByOne': WHATEVER THE INPUT: true; the input reads as it did. -/
def fnCountInsertRaisesOwnStatusByOneSpec : ChangeSpec := { name := "fnCountInsertRaisesOwnStatusByOne", fn := fun _ => fun
  | [d1, d2, d3, d4, d5] => { results := [.lit (.bool true)], args := [d1, d2, d3, d4, d5] }
  | _ => none }
def fnCountInsertRaisesOwnStatusByOneRow : OpenClaim := { program := "qxb6628972a", sum := "1a184c514106fe60b8438f2bf3253cbeede8b35fe1422b0d912026f3dd4d3c7a", func := "example.com/tuoguan/tuoguan/zzlaws_pkg_track_b1.FnCountInsertRaisesOwnStatusByOne", spec := "fnCountInsertRaisesOwnStatusByOne", apart := false }
def FnCountInsertRaisesOwnStatusByOneSaid : Prop := fnCountInsertRaisesOwnStatusByOneRow.holds Try.pinned (OpenSpec.ofChange fnCountInsertRaisesOwnStatusByOneSpec)

/-- ITS FALSE NEIGHBOUR: 'it returns false'. Refute it at one input. -/
def fnCountInsertRaisesOwnStatusByOneWrong : ChangeSpec := { name := "fnCountInsertRaisesOwnStatusByOne", fn := fun _ => fun
  | [d1, d2, d3, d4, d5] => { results := [.lit (.bool false)], args := [d1, d2, d3, d4, d5] }
  | _ => none }
def FnCountInsertRaisesOwnStatusByOneWrongFalsely : Prop := fnCountInsertRaisesOwnStatusByOneRow.holds Try.pinned (OpenSpec.ofChange fnCountInsertRaisesOwnStatusByOneWrong)

end Rows
end Go.Proofs.Qxb6628972a
