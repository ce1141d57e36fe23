/-
  DERIVED. GIVEN WITH THE SEED: THE CARDS: each row of YtaeamjhgfhcjdaaDoorRows.lean that lists a variable, with what it lists TIED to the program's text (the seventh form; the later family's looks); each row that meets fmt, with fmt's text TOLD by the authors' own Lean function (tested against real Go, not proved from fmt's source: count such statements apart). THE CARD IS WHAT COUNTS. Prove the row's statement (the work); the ties are given (YtaeamjhgfhcjdaaDoorTie.lean); close each card by the builder's one call (the guide's Derived/Test/ToyasCard.lean, 'card_holds'). Laid BY PROGRAM, IN A SANDBOX (cutbox-door.mjs). By AI agents, Wed Nov 11 2026. No macro, syntax, notation, axiom, sorry.
-/
import Derived.Test.YtaeamjhgfhcjdaaDoorRows
import GoSem.ClaimSeven
namespace Go.Proofs.YtaeamjhgfhcjdaaDoor
namespace Rows

/-- THE TIED CARD OF 'orthoepylaw25.PointerAll'. -/
def pointerAllCard : Claim7 := { stood := { row := pointerAllRow, standIns := [], harness := (true, "535fbc9a1d833f598adf5d2a1830951dbcc77ee69438b8981ff7a96c303a107e"), looks := false }, kinds := [], alts := [], laidByText := true, laidKinds := [.data, .pinned], laidTests := true, laidLooks := .later }
def PointerAllCardSaid : Prop := Claim7.holds Tryd.pinned (.plain (OpenSpec.ofChange pointerAllSpec)) pointerAllCard

/-- THE TIED CARD OF 'orthoepylaw25.PointerBack'. -/
def pointerBackCard : Claim7 := { stood := { row := pointerBackRow, standIns := [], harness := (true, "535fbc9a1d833f598adf5d2a1830951dbcc77ee69438b8981ff7a96c303a107e"), looks := false }, kinds := [], alts := [], laidByText := true, laidKinds := [.data, .pinned], laidTests := true, laidLooks := .later }
def PointerBackCardSaid : Prop := Claim7.holds Tryd.pinned (.plain (OpenSpec.ofChange pointerBackSpec)) pointerBackCard

/-- THE TIED CARD OF 'orthoepylaw25.PointerForth'. -/
def pointerForthCard : Claim7 := { stood := { row := pointerForthRow, standIns := [], harness := (true, "535fbc9a1d833f598adf5d2a1830951dbcc77ee69438b8981ff7a96c303a107e"), looks := false }, kinds := [], alts := [], laidByText := true, laidKinds := [.data, .pinned], laidTests := true, laidLooks := .later }
def PointerForthCardSaid : Prop := Claim7.holds Tryd.pinned (.plain (OpenSpec.ofChange pointerForthSpec)) pointerForthCard

/-- THE TIED CARD OF 'orthoepylaw25.PointerLongest'. -/
def pointerLongestCard : Claim7 := { stood := { row := pointerLongestRow, standIns := [], harness := (true, "535fbc9a1d833f598adf5d2a1830951dbcc77ee69438b8981ff7a96c303a107e"), looks := false }, kinds := [], alts := [], laidByText := true, laidKinds := [.data, .pinned], laidTests := true, laidLooks := .later }
def PointerLongestCardSaid : Prop := Claim7.holds Tryd.pinned (.plain (OpenSpec.ofChange pointerLongestSpec)) pointerLongestCard

/-- THE TIED CARD OF 'orthoepylaw25.PointerIndex'. -/
def pointerIndexCard : Claim7 := { stood := { row := pointerIndexRow, standIns := [], harness := (true, "535fbc9a1d833f598adf5d2a1830951dbcc77ee69438b8981ff7a96c303a107e"), looks := false }, kinds := [], alts := [], laidByText := true, laidKinds := [.data, .pinned], laidTests := true, laidLooks := .later }
def PointerIndexCardSaid : Prop := Claim7.holds Tryd.pinned (.plain (OpenSpec.ofChange pointerIndexSpec)) pointerIndexCard

/-- THE TIED CARD OF 'orthoepylaw25.PointerEvals'. -/
def pointerEvalsCard : Claim7 := { stood := { row := pointerEvalsRow, standIns := [], harness := (true, "535fbc9a1d833f598adf5d2a1830951dbcc77ee69438b8981ff7a96c303a107e"), looks := false }, kinds := [], alts := [], laidByText := true, laidKinds := [.data, .pinned], laidTests := true, laidLooks := .later }
def PointerEvalsCardSaid : Prop := Claim7.holds Tryd.pinned (.plain (OpenSpec.ofChange pointerEvalsSpec)) pointerEvalsCard

/-- THE TIED CARD OF 'orthoepylaw25.PointerPaths'. -/
def pointerPathsCard : Claim7 := { stood := { row := pointerPathsRow, standIns := [], harness := (true, "535fbc9a1d833f598adf5d2a1830951dbcc77ee69438b8981ff7a96c303a107e"), looks := false }, kinds := [], alts := [], laidByText := true, laidKinds := [.data, .pinned], laidTests := true, laidLooks := .later }
def PointerPathsCardSaid : Prop := Claim7.holds Tryd.pinned (.plain (OpenSpec.ofChange pointerPathsSpec)) pointerPathsCard

/-- THE TIED CARD OF 'orthoepylaw25.PointerLonger'. -/
def pointerLongerCard : Claim7 := { stood := { row := pointerLongerRow, standIns := [], harness := (true, "535fbc9a1d833f598adf5d2a1830951dbcc77ee69438b8981ff7a96c303a107e"), looks := false }, kinds := [], alts := [], laidByText := true, laidKinds := [.data, .pinned], laidTests := true, laidLooks := .later }
def PointerLongerCardSaid : Prop := Claim7.holds Tryd.pinned (.plain (OpenSpec.ofChange pointerLongerSpec)) pointerLongerCard

/-- THE SECOND FORM's CARD OF 'orthoepylaw25.PointerAll'. -/
def pointerAllUptoCard : Claim7 := { stood := { row := pointerAllUptoRow, standIns := [], harness := (true, "535fbc9a1d833f598adf5d2a1830951dbcc77ee69438b8981ff7a96c303a107e"), looks := false }, kinds := [], alts := [], laidByText := true, laidKinds := [.data, .pinned], laidTests := true, laidLooks := .later }
def PointerAllUptoCardSaid : Prop := Claim7.holds Tryd.pinned (.plain (OpenSpec.upto pointerAllSpec)) pointerAllUptoCard

/-- THE SECOND FORM's CARD OF 'orthoepylaw25.PointerBack'. -/
def pointerBackUptoCard : Claim7 := { stood := { row := pointerBackUptoRow, standIns := [], harness := (true, "535fbc9a1d833f598adf5d2a1830951dbcc77ee69438b8981ff7a96c303a107e"), looks := false }, kinds := [], alts := [], laidByText := true, laidKinds := [.data, .pinned], laidTests := true, laidLooks := .later }
def PointerBackUptoCardSaid : Prop := Claim7.holds Tryd.pinned (.plain (OpenSpec.upto pointerBackSpec)) pointerBackUptoCard

/-- THE SECOND FORM's CARD OF 'orthoepylaw25.PointerForth'. -/
def pointerForthUptoCard : Claim7 := { stood := { row := pointerForthUptoRow, standIns := [], harness := (true, "535fbc9a1d833f598adf5d2a1830951dbcc77ee69438b8981ff7a96c303a107e"), looks := false }, kinds := [], alts := [], laidByText := true, laidKinds := [.data, .pinned], laidTests := true, laidLooks := .later }
def PointerForthUptoCardSaid : Prop := Claim7.holds Tryd.pinned (.plain (OpenSpec.upto pointerForthSpec)) pointerForthUptoCard

/-- THE SECOND FORM's CARD OF 'orthoepylaw25.PointerLongest'. -/
def pointerLongestUptoCard : Claim7 := { stood := { row := pointerLongestUptoRow, standIns := [], harness := (true, "535fbc9a1d833f598adf5d2a1830951dbcc77ee69438b8981ff7a96c303a107e"), looks := false }, kinds := [], alts := [], laidByText := true, laidKinds := [.data, .pinned], laidTests := true, laidLooks := .later }
def PointerLongestUptoCardSaid : Prop := Claim7.holds Tryd.pinned (.plain (OpenSpec.upto pointerLongestSpec)) pointerLongestUptoCard

/-- THE SECOND FORM's CARD OF 'orthoepylaw25.PointerIndex'. -/
def pointerIndexUptoCard : Claim7 := { stood := { row := pointerIndexUptoRow, standIns := [], harness := (true, "535fbc9a1d833f598adf5d2a1830951dbcc77ee69438b8981ff7a96c303a107e"), looks := false }, kinds := [], alts := [], laidByText := true, laidKinds := [.data, .pinned], laidTests := true, laidLooks := .later }
def PointerIndexUptoCardSaid : Prop := Claim7.holds Tryd.pinned (.plain (OpenSpec.upto pointerIndexSpec)) pointerIndexUptoCard

/-- THE SECOND FORM's CARD OF 'orthoepylaw25.PointerEvals'. -/
def pointerEvalsUptoCard : Claim7 := { stood := { row := pointerEvalsUptoRow, standIns := [], harness := (true, "535fbc9a1d833f598adf5d2a1830951dbcc77ee69438b8981ff7a96c303a107e"), looks := false }, kinds := [], alts := [], laidByText := true, laidKinds := [.data, .pinned], laidTests := true, laidLooks := .later }
def PointerEvalsUptoCardSaid : Prop := Claim7.holds Tryd.pinned (.plain (OpenSpec.upto pointerEvalsSpec)) pointerEvalsUptoCard

/-- THE SECOND FORM's CARD OF 'orthoepylaw25.PointerPaths'. -/
def pointerPathsUptoCard : Claim7 := { stood := { row := pointerPathsUptoRow, standIns := [], harness := (true, "535fbc9a1d833f598adf5d2a1830951dbcc77ee69438b8981ff7a96c303a107e"), looks := false }, kinds := [], alts := [], laidByText := true, laidKinds := [.data, .pinned], laidTests := true, laidLooks := .later }
def PointerPathsUptoCardSaid : Prop := Claim7.holds Tryd.pinned (.plain (OpenSpec.upto pointerPathsSpec)) pointerPathsUptoCard

/-- THE SECOND FORM's CARD OF 'orthoepylaw25.PointerLonger'. -/
def pointerLongerUptoCard : Claim7 := { stood := { row := pointerLongerUptoRow, standIns := [], harness := (true, "535fbc9a1d833f598adf5d2a1830951dbcc77ee69438b8981ff7a96c303a107e"), looks := false }, kinds := [], alts := [], laidByText := true, laidKinds := [.data, .pinned], laidTests := true, laidLooks := .later }
def PointerLongerUptoCardSaid : Prop := Claim7.holds Tryd.pinned (.plain (OpenSpec.upto pointerLongerSpec)) pointerLongerUptoCard
end Rows
end Go.Proofs.YtaeamjhgfhcjdaaDoor
