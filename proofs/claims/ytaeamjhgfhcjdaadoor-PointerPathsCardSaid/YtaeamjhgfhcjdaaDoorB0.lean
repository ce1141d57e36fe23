/- What is asked of every world in which a call is told: that the package variable internal/bytealg.MaxLen holds a number, and is written to no more. -/
import Derived.Test.YtaeamjhgfhcjdaaDoorC1
namespace Go.Proofs.YtaeamjhgfhcjdaaDoor.Ab
open Go Go.RowKit

def Base (S : Nat → Prop) (w : World) : Prop := S 0 ∧ ∃ m, w.cell? ⟨0, 0, none⟩ = some (.int .i64 m)

theorem Base.mono {S S' : Nat → Prop} {w w' : World} (h : Base S w) (k : Keep S w S' w') : Base S' w' :=
  ⟨k.sub _ h.1, h.2.imp fun _ hm => (k.cell (a := ⟨0, 0, none⟩) h.1).trans hm⟩

end Go.Proofs.YtaeamjhgfhcjdaaDoor.Ab
