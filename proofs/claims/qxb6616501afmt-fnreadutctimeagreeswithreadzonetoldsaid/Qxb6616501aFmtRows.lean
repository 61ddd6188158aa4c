/-
  No cell of these rows narrows 'for every input' (looked for: loops, veiled, ifaces, maps, wideKeys, modest, calm, conditions, laid).
  DERIVED. THE GIVEN ROWS OF THIS SEAT. 4 by the template 'for every input the law returns true; each argument reads behind the call as it read before'; 0 by the template 'total and deterministic' (their statements: Qxb6616501aFmtTotals.lean).
  GIVEN WITH THE SEED: the statements are not yours to turn. If you find one false, say at which input.
  Laid BY PROGRAM, IN A SANDBOX (cutbox-rows.mjs): the forced cells as the released guide's own fill.sh prints them over the translation 7bdb7de521a3b99f… (all of the seat's roots in one cut). By AI agents, Wed Nov 11 2026. No macro, syntax, notation, axiom, sorry.
-/
import Derived.Test.Qxb6616501aFmtChecked
import GoSem.Claim
import GoSem.ClaimJoined
import GoSem.ClaimMapViews
import Derived.JoinedTies
import Derived.KernelRfl
namespace Go.Proofs.Qxb6616501aFmt
/- THE CELL 'sum', in the pinned program and in every row, IS THE sha256 OF THE DUMP (.gsa) THAT Qxb6616501aFmtProg.lean LOADS. Nothing in Lean hashes anything: it is a label: what it is worth is what the hold of that sum in a sandbox is worth. -/
noncomputable def Tryf.pinned : Pinned := { name := "qxb6616501afmt", sum := "7bdb7de521a3b99f1068b2b1fde8bba64321c344d3bc297c254d46881ef659f6", checked := Tryf.checked }
namespace Rows
def none {H : Type} : Left H := { results := [], args := [] }

/-- 'zzlaws_root_b1.FnReadUTCTimeAgreesWithReadZone': WHATEVER THE INPUT: true; the input reads as it did. -/
def fnReadUTCTimeAgreesWithReadZoneSpec : ChangeSpec := { name := "fnReadUTCTimeAgreesWithReadZone", fn := fun _ => fun
  | [d1, d2, d3, d4, d5] => { results := [.lit (.bool true)], args := [d1, d2, d3, d4, d5] }
  | _ => none }
def fnReadUTCTimeAgreesWithReadZoneRow : OpenClaim := { program := "qxb6616501afmt", sum := "7bdb7de521a3b99f1068b2b1fde8bba64321c344d3bc297c254d46881ef659f6", func := "example.com/tagloom/tagloom/zzlaws_root_b1.FnReadUTCTimeAgreesWithReadZone", spec := "fnReadUTCTimeAgreesWithReadZone", stops := ["fmt.errorf"], inPlace := ["fmt.errorf"], apart := false }
/-- NO THEOREM (fmt's text is open here; it may be false): for the released tool's asking of the row's closed facts alone. THE STATEMENT IS 'FnReadUTCTimeAgreesWithReadZoneToldSaid' (Qxb6616501aFmtCards.lean). -/
def FnReadUTCTimeAgreesWithReadZoneFormAsk : Prop := fnReadUTCTimeAgreesWithReadZoneRow.holds Tryf.pinned (OpenSpec.ofChange fnReadUTCTimeAgreesWithReadZoneSpec)

/-- ITS FALSE NEIGHBOUR: 'it returns false'. Refute it at one input. -/
def fnReadUTCTimeAgreesWithReadZoneWrong : ChangeSpec := { name := "fnReadUTCTimeAgreesWithReadZone", fn := fun _ => fun
  | [d1, d2, d3, d4, d5] => { results := [.lit (.bool false)], args := [d1, d2, d3, d4, d5] }
  | _ => none }
def FnReadUTCTimeAgreesWithReadZoneWrongFormAsk : Prop := fnReadUTCTimeAgreesWithReadZoneRow.holds Tryf.pinned (OpenSpec.ofChange fnReadUTCTimeAgreesWithReadZoneWrong)

/-- 'zzlaws_root_b1.FnReadUTCTimeSecondsInserted': WHATEVER THE INPUT: true; the input reads as it did. -/
def fnReadUTCTimeSecondsInsertedSpec : ChangeSpec := { name := "fnReadUTCTimeSecondsInserted", fn := fun _ => fun
  | [d1, d2, d3, d4, d5, d6, d7] => { results := [.lit (.bool true)], args := [d1, d2, d3, d4, d5, d6, d7] }
  | _ => none }
def fnReadUTCTimeSecondsInsertedRow : OpenClaim := { program := "qxb6616501afmt", sum := "7bdb7de521a3b99f1068b2b1fde8bba64321c344d3bc297c254d46881ef659f6", func := "example.com/tagloom/tagloom/zzlaws_root_b1.FnReadUTCTimeSecondsInserted", spec := "fnReadUTCTimeSecondsInserted", stops := ["fmt.errorf"], inPlace := ["fmt.errorf"], apart := false }
/-- NO THEOREM (fmt's text is open here; it may be false): for the released tool's asking of the row's closed facts alone. THE STATEMENT IS 'FnReadUTCTimeSecondsInsertedToldSaid' (Qxb6616501aFmtCards.lean). -/
def FnReadUTCTimeSecondsInsertedFormAsk : Prop := fnReadUTCTimeSecondsInsertedRow.holds Tryf.pinned (OpenSpec.ofChange fnReadUTCTimeSecondsInsertedSpec)

/-- ITS FALSE NEIGHBOUR: 'it returns false'. Refute it at one input. -/
def fnReadUTCTimeSecondsInsertedWrong : ChangeSpec := { name := "fnReadUTCTimeSecondsInserted", fn := fun _ => fun
  | [d1, d2, d3, d4, d5, d6, d7] => { results := [.lit (.bool false)], args := [d1, d2, d3, d4, d5, d6, d7] }
  | _ => none }
def FnReadUTCTimeSecondsInsertedWrongFormAsk : Prop := fnReadUTCTimeSecondsInsertedRow.holds Tryf.pinned (OpenSpec.ofChange fnReadUTCTimeSecondsInsertedWrong)

/-- 'zzlaws_root_b1.FnReadZoneSignFlip': WHATEVER THE INPUT: true; the input reads as it did. -/
def fnReadZoneSignFlipSpec : ChangeSpec := { name := "fnReadZoneSignFlip", fn := fun _ => fun
  | [d1, d2, d3, d4, d5] => { results := [.lit (.bool true)], args := [d1, d2, d3, d4, d5] }
  | _ => none }
def fnReadZoneSignFlipRow : OpenClaim := { program := "qxb6616501afmt", sum := "7bdb7de521a3b99f1068b2b1fde8bba64321c344d3bc297c254d46881ef659f6", func := "example.com/tagloom/tagloom/zzlaws_root_b1.FnReadZoneSignFlip", spec := "fnReadZoneSignFlip", stops := ["fmt.errorf"], inPlace := ["fmt.errorf"], apart := false }
/-- NO THEOREM (fmt's text is open here; it may be false): for the released tool's asking of the row's closed facts alone. THE STATEMENT IS 'FnReadZoneSignFlipToldSaid' (Qxb6616501aFmtCards.lean). -/
def FnReadZoneSignFlipFormAsk : Prop := fnReadZoneSignFlipRow.holds Tryf.pinned (OpenSpec.ofChange fnReadZoneSignFlipSpec)

/-- ITS FALSE NEIGHBOUR: 'it returns false'. Refute it at one input. -/
def fnReadZoneSignFlipWrong : ChangeSpec := { name := "fnReadZoneSignFlip", fn := fun _ => fun
  | [d1, d2, d3, d4, d5] => { results := [.lit (.bool false)], args := [d1, d2, d3, d4, d5] }
  | _ => none }
def FnReadZoneSignFlipWrongFormAsk : Prop := fnReadZoneSignFlipRow.holds Tryf.pinned (OpenSpec.ofChange fnReadZoneSignFlipWrong)

/-- 'zzlaws_root_b1.FnReadZoneMinutesOptional': WHATEVER THE INPUT: true; the input reads as it did. -/
def fnReadZoneMinutesOptionalSpec : ChangeSpec := { name := "fnReadZoneMinutesOptional", fn := fun _ => fun
  | [d1, d2, d3, d4] => { results := [.lit (.bool true)], args := [d1, d2, d3, d4] }
  | _ => none }
def fnReadZoneMinutesOptionalRow : OpenClaim := { program := "qxb6616501afmt", sum := "7bdb7de521a3b99f1068b2b1fde8bba64321c344d3bc297c254d46881ef659f6", func := "example.com/tagloom/tagloom/zzlaws_root_b1.FnReadZoneMinutesOptional", spec := "fnReadZoneMinutesOptional", stops := ["fmt.errorf"], inPlace := ["fmt.errorf"], apart := false }
/-- NO THEOREM (fmt's text is open here; it may be false): for the released tool's asking of the row's closed facts alone. THE STATEMENT IS 'FnReadZoneMinutesOptionalToldSaid' (Qxb6616501aFmtCards.lean). -/
def FnReadZoneMinutesOptionalFormAsk : Prop := fnReadZoneMinutesOptionalRow.holds Tryf.pinned (OpenSpec.ofChange fnReadZoneMinutesOptionalSpec)

/-- ITS FALSE NEIGHBOUR: 'it returns false'. Refute it at one input. -/
def fnReadZoneMinutesOptionalWrong : ChangeSpec := { name := "fnReadZoneMinutesOptional", fn := fun _ => fun
  | [d1, d2, d3, d4] => { results := [.lit (.bool false)], args := [d1, d2, d3, d4] }
  | _ => none }
def FnReadZoneMinutesOptionalWrongFormAsk : Prop := fnReadZoneMinutesOptionalRow.holds Tryf.pinned (OpenSpec.ofChange fnReadZoneMinutesOptionalWrong)

end Rows
end Go.Proofs.Qxb6616501aFmt
