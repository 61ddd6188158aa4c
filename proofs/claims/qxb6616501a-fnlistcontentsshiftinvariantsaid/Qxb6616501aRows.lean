/-
  No cell of these rows narrows 'for every input' (looked for: loops, veiled, ifaces, maps, wideKeys, modest, calm, conditions, laid).
  DERIVED. THE GIVEN ROWS OF THIS SEAT. 1 by the template 'for every input the law returns true; each argument reads behind the call as it read before'; 0 by the template 'total and deterministic' (their statements: Qxb6616501aTotals.lean).
  GIVEN WITH THE SEED: the statements are not yours to turn. If you find one false, say at which input.
  Laid BY PROGRAM, IN A SANDBOX (cutbox-rows.mjs): the forced cells as the released guide's own fill.sh prints them over the translation bff93443bfc7a64c… (all of the seat's roots in one cut). By AI agents, Wed Nov 11 2026. No macro, syntax, notation, axiom, sorry.
-/
import Derived.Test.Qxb6616501aChecked
import GoSem.Claim
import GoSem.ClaimJoined
import GoSem.ClaimMapViews
import Derived.JoinedTies
import Derived.KernelRfl
namespace Go.Proofs.Qxb6616501a
/- THE CELL 'sum', in the pinned program and in every row, IS THE sha256 OF THE DUMP (.gsa) THAT Qxb6616501aProg.lean LOADS. Nothing in Lean hashes anything: it is a label: what it is worth is what the hold of that sum in a sandbox is worth. -/
noncomputable def Try.pinned : Pinned := { name := "qxb6616501a", sum := "bff93443bfc7a64c53a10730f5d8e6177099f8690358e0d645bd8efc6518a011", checked := Try.checked }
namespace Rows
def none {H : Type} : Left H := { results := [], args := [] }

/-- 'zzlaws_root_b1.FnListContentsShiftInvariant': WHATEVER THE INPUT: true; the input reads as it did. -/
def fnListContentsShiftInvariantSpec : ChangeSpec := { name := "fnListContentsShiftInvariant", fn := fun _ => fun
  | [d1, d2, d3, d4, d5, d6, d7] => { results := [.lit (.bool true)], args := [d1, d2, d3, d4, d5, d6, d7] }
  | _ => none }
def fnListContentsShiftInvariantRow : OpenClaim := { program := "qxb6616501a", sum := "bff93443bfc7a64c53a10730f5d8e6177099f8690358e0d645bd8efc6518a011", func := "example.com/tagloom/tagloom/zzlaws_root_b1.FnListContentsShiftInvariant", spec := "fnListContentsShiftInvariant", apart := false }
def FnListContentsShiftInvariantSaid : Prop := fnListContentsShiftInvariantRow.holds Try.pinned (OpenSpec.ofChange fnListContentsShiftInvariantSpec)

/-- ITS FALSE NEIGHBOUR: 'it returns false'. Refute it at one input. -/
def fnListContentsShiftInvariantWrong : ChangeSpec := { name := "fnListContentsShiftInvariant", fn := fun _ => fun
  | [d1, d2, d3, d4, d5, d6, d7] => { results := [.lit (.bool false)], args := [d1, d2, d3, d4, d5, d6, d7] }
  | _ => none }
def FnListContentsShiftInvariantWrongFalsely : Prop := fnListContentsShiftInvariantRow.holds Try.pinned (OpenSpec.ofChange fnListContentsShiftInvariantWrong)

end Rows
end Go.Proofs.Qxb6616501a
