/-
  No cell of these rows narrows 'for every input' (looked for: loops, veiled, ifaces, maps, wideKeys, modest, calm, conditions, laid).
  DERIVED. THE GIVEN ROWS OF THIS SEAT. 2 by the template 'for every input the law returns true; each argument reads behind the call as it read before'; 0 by the template 'total and deterministic' (their statements: Qxb6616745aTotals.lean).
  GIVEN WITH THE SEED: the statements are not yours to turn. If you find one false, say at which input.
  Laid BY PROGRAM, IN A SANDBOX (cutbox-rows.mjs): the forced cells as the released guide's own fill.sh prints them over the translation aa8399d57e59ff5e… (all of the seat's roots in one cut). By AI agents, Wed Nov 11 2026. No macro, syntax, notation, axiom, sorry.
-/
import Derived.Test.Qxb6616745aChecked
import GoSem.Claim
import GoSem.ClaimJoined
import GoSem.ClaimMapViews
import Derived.JoinedTies
import Derived.KernelRfl
namespace Go.Proofs.Qxb6616745a
/- THE CELL 'sum', in the pinned program and in every row, IS THE sha256 OF THE DUMP (.gsa) THAT Qxb6616745aProg.lean LOADS. Nothing in Lean hashes anything: it is a label: what it is worth is what the hold of that sum in a sandbox is worth. -/
noncomputable def Try.pinned : Pinned := { name := "qxb6616745a", sum := "aa8399d57e59ff5e03e9fbcb35b41d198be0e4c60ff28fcc5caea7617b9f33d6", checked := Try.checked }
namespace Rows
def none {H : Type} : Left H := { results := [], args := [] }

/-- 'zzlaws_pkg_download_b1.FnChokerRemoveHandsTheFreedSlotOn': WHATEVER THE INPUT: true; the input reads as it did. -/
def fnChokerRemoveHandsTheFreedSlotOnSpec : ChangeSpec := { name := "fnChokerRemoveHandsTheFreedSlotOn", fn := fun _ => fun
  | [d1, d2, d3, d4, d5] => { results := [.lit (.bool true)], args := [d1, d2, d3, d4, d5] }
  | _ => none }
def fnChokerRemoveHandsTheFreedSlotOnRow : OpenClaim := { program := "qxb6616745a", sum := "aa8399d57e59ff5e03e9fbcb35b41d198be0e4c60ff28fcc5caea7617b9f33d6", func := "example.com/spate/spate/zzlaws_pkg_download_b1.FnChokerRemoveHandsTheFreedSlotOn", spec := "fnChokerRemoveHandsTheFreedSlotOn", unfollowed := true, recurses := true, apart := false }
def FnChokerRemoveHandsTheFreedSlotOnSaid : Prop := fnChokerRemoveHandsTheFreedSlotOnRow.holds Try.pinned (OpenSpec.ofChange fnChokerRemoveHandsTheFreedSlotOnSpec)

/-- ITS FALSE NEIGHBOUR: 'it returns false'. Refute it at one input. -/
def fnChokerRemoveHandsTheFreedSlotOnWrong : ChangeSpec := { name := "fnChokerRemoveHandsTheFreedSlotOn", fn := fun _ => fun
  | [d1, d2, d3, d4, d5] => { results := [.lit (.bool false)], args := [d1, d2, d3, d4, d5] }
  | _ => none }
def FnChokerRemoveHandsTheFreedSlotOnWrongFalsely : Prop := fnChokerRemoveHandsTheFreedSlotOnRow.holds Try.pinned (OpenSpec.ofChange fnChokerRemoveHandsTheFreedSlotOnWrong)

/-- 'zzlaws_pkg_download_b1.FnChokerRemoveOrderFree': WHATEVER THE INPUT: true; the input reads as it did. -/
def fnChokerRemoveOrderFreeSpec : ChangeSpec := { name := "fnChokerRemoveOrderFree", fn := fun _ => fun
  | [d1, d2, d3, d4] => { results := [.lit (.bool true)], args := [d1, d2, d3, d4] }
  | _ => none }
def fnChokerRemoveOrderFreeRow : OpenClaim := { program := "qxb6616745a", sum := "aa8399d57e59ff5e03e9fbcb35b41d198be0e4c60ff28fcc5caea7617b9f33d6", func := "example.com/spate/spate/zzlaws_pkg_download_b1.FnChokerRemoveOrderFree", spec := "fnChokerRemoveOrderFree", unfollowed := true, recurses := true, apart := false }
def FnChokerRemoveOrderFreeSaid : Prop := fnChokerRemoveOrderFreeRow.holds Try.pinned (OpenSpec.ofChange fnChokerRemoveOrderFreeSpec)

/-- ITS FALSE NEIGHBOUR: 'it returns false'. Refute it at one input. -/
def fnChokerRemoveOrderFreeWrong : ChangeSpec := { name := "fnChokerRemoveOrderFree", fn := fun _ => fun
  | [d1, d2, d3, d4] => { results := [.lit (.bool false)], args := [d1, d2, d3, d4] }
  | _ => none }
def FnChokerRemoveOrderFreeWrongFalsely : Prop := fnChokerRemoveOrderFreeRow.holds Try.pinned (OpenSpec.ofChange fnChokerRemoveOrderFreeWrong)

end Rows
end Go.Proofs.Qxb6616745a
