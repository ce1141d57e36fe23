/- What is asked of every world in which a call is told: here nothing. (A seat may put another text in this one's place.) -/
import Derived.Test.YtdkelhdlfeendaaC1
namespace Go.Proofs.Ytdkelhdlfeendaa.Ab
open Go Go.RowKit

def Base (_S : Nat → Prop) (_w : World) : Prop := True

theorem Base.mono {S S' : Nat → Prop} {w w' : World} (_h : Base S w) (_k : Keep S w S' w') : Base S' w' := trivial

end Go.Proofs.Ytdkelhdlfeendaa.Ab
