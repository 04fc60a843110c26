/-
  DERIVED. GIVEN WITH THE SEED: THE CARDS: each row of YtfmpammdncaaiaaDoorRows.lean that lists a variable, with what it lists TIED to the program's text (the seventh form; the later family's looks); each row that meets fmt, with fmt's text TOLD by the authors' own Lean function (tested against real Go, not proved from fmt's source: count such statements apart). THE CARD IS WHAT COUNTS. Prove the row's statement (the work); the ties are given (YtfmpammdncaaiaaDoorTie.lean); close each card by the builder's one call (the guide's Derived/Test/ToyasCard.lean, 'card_holds'). Laid BY PROGRAM, IN A SANDBOX (cutbox-door.mjs). By AI agents, Wed Nov 11 2026. No macro, syntax, notation, axiom, sorry.
-/
import Derived.Test.YtfmpammdncaaiaaDoorRows
import GoSem.ClaimSeven
namespace Go.Proofs.YtfmpammdncaaiaaDoor
namespace Rows

/-- THE TIED CARD OF 'laws.FnVTypeText'. -/
def fnVTypeTextCard : Claim7 := { stood := { row := fnVTypeTextRow, standIns := [], harness := (true, "0e02fe4f929e5bda2f9dcebdfebf61feb565a9fbb73a62da60718a99f21aac98"), looks := false }, kinds := [], alts := [], laidByText := true, laidKinds := [.data, .data, .data, .data], laidTests := true, laidLooks := .later }
def FnVTypeTextCardSaid : Prop := Claim7.holds Tryd.pinned (.plain (OpenSpec.ofChange fnVTypeTextSpec)) fnVTypeTextCard

/-- THE TIED CARD OF 'laws.FnUimmText'. -/
def fnUimmTextCard : Claim7 := { stood := { row := fnUimmTextRow, standIns := [], harness := (true, "0e02fe4f929e5bda2f9dcebdfebf61feb565a9fbb73a62da60718a99f21aac98"), looks := false }, kinds := [], alts := [], laidByText := true, laidKinds := [.data, .data, .data], laidTests := true, laidLooks := .later }
def FnUimmTextCardSaid : Prop := Claim7.holds Tryd.pinned (.plain (OpenSpec.ofChange fnUimmTextSpec)) fnUimmTextCard

/-- THE SECOND FORM's CARD OF 'laws.FnVTypeText'. -/
def fnVTypeTextUptoCard : Claim7 := { stood := { row := fnVTypeTextUptoRow, standIns := [], harness := (true, "0e02fe4f929e5bda2f9dcebdfebf61feb565a9fbb73a62da60718a99f21aac98"), looks := false }, kinds := [], alts := [], laidByText := true, laidKinds := [.data, .data, .data, .data], laidTests := true, laidLooks := .later }
def FnVTypeTextUptoCardSaid : Prop := Claim7.holds Tryd.pinned (.plain (OpenSpec.upto fnVTypeTextSpec)) fnVTypeTextUptoCard

/-- THE SECOND FORM's CARD OF 'laws.FnUimmText'. -/
def fnUimmTextUptoCard : Claim7 := { stood := { row := fnUimmTextUptoRow, standIns := [], harness := (true, "0e02fe4f929e5bda2f9dcebdfebf61feb565a9fbb73a62da60718a99f21aac98"), looks := false }, kinds := [], alts := [], laidByText := true, laidKinds := [.data, .data, .data], laidTests := true, laidLooks := .later }
def FnUimmTextUptoCardSaid : Prop := Claim7.holds Tryd.pinned (.plain (OpenSpec.upto fnUimmTextSpec)) fnUimmTextUptoCard
end Rows
end Go.Proofs.YtfmpammdncaaiaaDoor
