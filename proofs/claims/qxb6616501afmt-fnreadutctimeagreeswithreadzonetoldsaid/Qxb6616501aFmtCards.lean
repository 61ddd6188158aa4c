/-
  DERIVED. GIVEN WITH THE SEED: THE CARDS: each row of Qxb6616501aFmtRows.lean that lists a variable, with what it lists TIED to the program's text (the seventh form; the later family's looks); each row that meets fmt, with fmt's text TOLD by the authors' own Lean function (tested against real Go, not proved from fmt's source: count such statements apart). THE CARD IS WHAT COUNTS. Prove the row's statement (the work); the ties are given (Qxb6616501aFmtTie.lean); close each card by the builder's one call (the guide's Derived/Test/ToyasCard.lean, 'card_holds'). Laid BY PROGRAM, IN A SANDBOX (cutbox-door.mjs). By AI agents, Wed Nov 11 2026. No macro, syntax, notation, axiom, sorry.
-/
import Derived.Test.Qxb6616501aFmtRows
import GoSem.ClaimSeven
namespace Go.Proofs.Qxb6616501aFmt
namespace Rows

/-- THE TOLD CARD OF 'zzlaws_root_b1.FnReadUTCTimeAgreesWithReadZone'. -/
def fnReadUTCTimeAgreesWithReadZoneCard : Claim7 := { stood := { row := fnReadUTCTimeAgreesWithReadZoneRow, standIns := [], harness := (true, "322cfeb2b4f7c87e89bb2f436e2f0677a5ea10321b3a2defd086fe23f0a91712"), looks := false }, told := true, goes := false }
def FnReadUTCTimeAgreesWithReadZoneToldSaid : Prop := Claim7.holds Tryf.pinned (.plain (OpenSpec.ofChange fnReadUTCTimeAgreesWithReadZoneSpec)) fnReadUTCTimeAgreesWithReadZoneCard
/-- ITS FALSE NEIGHBOUR. Refute it at one input. -/
def FnReadUTCTimeAgreesWithReadZoneToldWrongFalsely : Prop := Claim7.holds Tryf.pinned (.plain (OpenSpec.ofChange fnReadUTCTimeAgreesWithReadZoneWrong)) fnReadUTCTimeAgreesWithReadZoneCard

/-- THE TOLD CARD OF 'zzlaws_root_b1.FnReadUTCTimeSecondsInserted'. -/
def fnReadUTCTimeSecondsInsertedCard : Claim7 := { stood := { row := fnReadUTCTimeSecondsInsertedRow, standIns := [], harness := (true, "322cfeb2b4f7c87e89bb2f436e2f0677a5ea10321b3a2defd086fe23f0a91712"), looks := false }, told := true, goes := false }
def FnReadUTCTimeSecondsInsertedToldSaid : Prop := Claim7.holds Tryf.pinned (.plain (OpenSpec.ofChange fnReadUTCTimeSecondsInsertedSpec)) fnReadUTCTimeSecondsInsertedCard
/-- ITS FALSE NEIGHBOUR. Refute it at one input. -/
def FnReadUTCTimeSecondsInsertedToldWrongFalsely : Prop := Claim7.holds Tryf.pinned (.plain (OpenSpec.ofChange fnReadUTCTimeSecondsInsertedWrong)) fnReadUTCTimeSecondsInsertedCard

/-- THE TOLD CARD OF 'zzlaws_root_b1.FnReadZoneSignFlip'. -/
def fnReadZoneSignFlipCard : Claim7 := { stood := { row := fnReadZoneSignFlipRow, standIns := [], harness := (true, "322cfeb2b4f7c87e89bb2f436e2f0677a5ea10321b3a2defd086fe23f0a91712"), looks := false }, told := true, goes := false }
def FnReadZoneSignFlipToldSaid : Prop := Claim7.holds Tryf.pinned (.plain (OpenSpec.ofChange fnReadZoneSignFlipSpec)) fnReadZoneSignFlipCard
/-- ITS FALSE NEIGHBOUR. Refute it at one input. -/
def FnReadZoneSignFlipToldWrongFalsely : Prop := Claim7.holds Tryf.pinned (.plain (OpenSpec.ofChange fnReadZoneSignFlipWrong)) fnReadZoneSignFlipCard

/-- THE TOLD CARD OF 'zzlaws_root_b1.FnReadZoneMinutesOptional'. -/
def fnReadZoneMinutesOptionalCard : Claim7 := { stood := { row := fnReadZoneMinutesOptionalRow, standIns := [], harness := (true, "322cfeb2b4f7c87e89bb2f436e2f0677a5ea10321b3a2defd086fe23f0a91712"), looks := false }, told := true, goes := false }
def FnReadZoneMinutesOptionalToldSaid : Prop := Claim7.holds Tryf.pinned (.plain (OpenSpec.ofChange fnReadZoneMinutesOptionalSpec)) fnReadZoneMinutesOptionalCard
/-- ITS FALSE NEIGHBOUR. Refute it at one input. -/
def FnReadZoneMinutesOptionalToldWrongFalsely : Prop := Claim7.holds Tryf.pinned (.plain (OpenSpec.ofChange fnReadZoneMinutesOptionalWrong)) fnReadZoneMinutesOptionalCard
end Rows
end Go.Proofs.Qxb6616501aFmt
