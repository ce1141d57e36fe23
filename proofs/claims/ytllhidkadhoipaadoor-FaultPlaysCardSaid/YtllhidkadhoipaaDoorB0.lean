/- What is asked of every world in which a call is told: that errors.errorType holds the handle of the type error, and strings.asciiSpace which bytes are blanks, and that both are written to no more. -/
import Derived.Test.YtllhidkadhoipaaDoorC1
namespace Go.Proofs.YtllhidkadhoipaaDoor.Ab
open Go Go.RowKit

/-- Is a byte a blank? -/
def blank (i : Nat) : Int := if i = 9 ∨ i = 10 ∨ i = 11 ∨ i = 12 ∨ i = 13 ∨ i = 32 then 1 else 0

def Base (S : Nat → Prop) (w : World) : Prop :=
  S 0 ∧ w.cell? ⟨0, 0, none⟩ = some (.iface 83 (.agg #[.pointer (some ⟨4, 26, none⟩)])) ∧ S 1 ∧ ∀ i, i < 256 → w.cell? ⟨1, i, none⟩ = some (.int .u8 (blank i))

theorem Base.mono {S S' : Nat → Prop} {w w' : World} (h : Base S w) (k : Keep S w S' w') : Base S' w' :=
  ⟨k.sub _ h.1, (k.cell (a := ⟨0, 0, none⟩) h.1).trans h.2.1, k.sub _ h.2.2.1, fun i hi => (k.cell (a := ⟨1, i, none⟩) h.2.2.1).trans (h.2.2.2 i hi)⟩

end Go.Proofs.YtllhidkadhoipaaDoor.Ab
