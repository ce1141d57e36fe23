/- The library's strings.Fields, by the kit's contract, at this program. -/
import Derived.Test.YtllhidkadhoipaaDoorProg
import Derived.Ground.NamesProg
import Derived.Shelf.Lay
import Derived.Shelf.Strings.Fields
import Derived.KernelRfl
namespace Go.Proofs
open Go.Shelf

shelf_lay Lays.n157 Nm 157 at Tryd as Tryd.lays157
theorem Tryd.ren_nums : Tryd.lays157_ren.f 157 = 24 ∧ Tryd.lays157_ren.g 0 = 1 ∧ Tryd.lays157_ren.t 9 = 9 := by decide
end Go.Proofs
