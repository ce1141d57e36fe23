/-
  DERIVED. GIVEN WITH THE SEED: THE CARDS: each row of YtllhidkadhoipaaDoorRows.lean that lists a variable, with what it lists TIED to the program's text (the seventh form; the later family's looks); each row that meets fmt, with fmt's text TOLD by the authors' own Lean function (tested against real Go, not proved from fmt's source: count such statements apart). THE CARD IS WHAT COUNTS. Prove the row's statement (the work); the ties are given (YtllhidkadhoipaaDoorTie.lean); close each card by the builder's one call (the guide's Derived/Test/ToyasCard.lean, 'card_holds'). Laid BY PROGRAM, IN A SANDBOX (cutbox-door.mjs). By AI agents, Wed Nov 11 2026. No macro, syntax, notation, axiom, sorry.
-/
import Derived.Test.YtllhidkadhoipaaDoorRows
import GoSem.ClaimSeven
namespace Go.Proofs.YtllhidkadhoipaaDoor
namespace Rows

/-- THE TIED CARD OF 'orthoepylaw14.FaultPlays'. -/
def faultPlaysCard : Claim7 := { stood := { row := faultPlaysRow, standIns := [], harness := (true, "8b44a86659b920b0424c6e0dfcc4c9c8897c1b024fd441f40ebf15d92b693c0d"), looks := true }, kinds := [], alts := [], laidByText := true, laidKinds := [.handle, .listed, .data], laidTests := true, laidLooks := .later }
def FaultPlaysCardSaid : Prop := Claim7.holds Tryd.pinned (.plain (OpenSpec.ofChange faultPlaysSpec)) faultPlaysCard

/-- THE TIED CARD OF 'orthoepylaw14.FaultNames'. -/
def faultNamesCard : Claim7 := { stood := { row := faultNamesRow, standIns := [], harness := (true, "8b44a86659b920b0424c6e0dfcc4c9c8897c1b024fd441f40ebf15d92b693c0d"), looks := true }, kinds := [], alts := [], laidByText := true, laidKinds := [.handle, .listed, .data], laidTests := true, laidLooks := .later }
def FaultNamesCardSaid : Prop := Claim7.holds Tryd.pinned (.plain (OpenSpec.ofChange faultNamesSpec)) faultNamesCard

/-- THE TIED CARD OF 'orthoepylaw14.FaultDeep'. -/
def faultDeepCard : Claim7 := { stood := { row := faultDeepRow, standIns := [], harness := (true, "8b44a86659b920b0424c6e0dfcc4c9c8897c1b024fd441f40ebf15d92b693c0d"), looks := true }, kinds := [], alts := [], laidByText := true, laidKinds := [.handle, .listed, .data], laidTests := true, laidLooks := .later }
def FaultDeepCardSaid : Prop := Claim7.holds Tryd.pinned (.plain (OpenSpec.ofChange faultDeepSpec)) faultDeepCard

/-- THE TIED CARD OF 'orthoepylaw14.FaultNone'. -/
def faultNoneCard : Claim7 := { stood := { row := faultNoneRow, standIns := [], harness := (true, "8b44a86659b920b0424c6e0dfcc4c9c8897c1b024fd441f40ebf15d92b693c0d"), looks := true }, kinds := [], alts := [], laidByText := true, laidKinds := [.handle, .listed, .data], laidTests := true, laidLooks := .later }
def FaultNoneCardSaid : Prop := Claim7.holds Tryd.pinned (.plain (OpenSpec.ofChange faultNoneSpec)) faultNoneCard

/-- THE SECOND FORM's CARD OF 'orthoepylaw14.FaultPlays'. -/
def faultPlaysUptoCard : Claim7 := { stood := { row := faultPlaysUptoRow, standIns := [], harness := (true, "8b44a86659b920b0424c6e0dfcc4c9c8897c1b024fd441f40ebf15d92b693c0d"), looks := true }, kinds := [], alts := [], laidByText := true, laidKinds := [.handle, .listed, .data], laidTests := true, laidLooks := .later }
def FaultPlaysUptoCardSaid : Prop := Claim7.holds Tryd.pinned (.plain (OpenSpec.upto faultPlaysSpec)) faultPlaysUptoCard

/-- THE SECOND FORM's CARD OF 'orthoepylaw14.FaultNames'. -/
def faultNamesUptoCard : Claim7 := { stood := { row := faultNamesUptoRow, standIns := [], harness := (true, "8b44a86659b920b0424c6e0dfcc4c9c8897c1b024fd441f40ebf15d92b693c0d"), looks := true }, kinds := [], alts := [], laidByText := true, laidKinds := [.handle, .listed, .data], laidTests := true, laidLooks := .later }
def FaultNamesUptoCardSaid : Prop := Claim7.holds Tryd.pinned (.plain (OpenSpec.upto faultNamesSpec)) faultNamesUptoCard

/-- THE SECOND FORM's CARD OF 'orthoepylaw14.FaultDeep'. -/
def faultDeepUptoCard : Claim7 := { stood := { row := faultDeepUptoRow, standIns := [], harness := (true, "8b44a86659b920b0424c6e0dfcc4c9c8897c1b024fd441f40ebf15d92b693c0d"), looks := true }, kinds := [], alts := [], laidByText := true, laidKinds := [.handle, .listed, .data], laidTests := true, laidLooks := .later }
def FaultDeepUptoCardSaid : Prop := Claim7.holds Tryd.pinned (.plain (OpenSpec.upto faultDeepSpec)) faultDeepUptoCard

/-- THE SECOND FORM's CARD OF 'orthoepylaw14.FaultNone'. -/
def faultNoneUptoCard : Claim7 := { stood := { row := faultNoneUptoRow, standIns := [], harness := (true, "8b44a86659b920b0424c6e0dfcc4c9c8897c1b024fd441f40ebf15d92b693c0d"), looks := true }, kinds := [], alts := [], laidByText := true, laidKinds := [.handle, .listed, .data], laidTests := true, laidLooks := .later }
def FaultNoneUptoCardSaid : Prop := Claim7.holds Tryd.pinned (.plain (OpenSpec.upto faultNoneSpec)) faultNoneUptoCard
end Rows
end Go.Proofs.YtllhidkadhoipaaDoor
