/- The library's functions that pointer.Print calls, by the kit's contracts, at this program. -/
import Derived.Test.YtaeamjhgfhcjdaaDoorProg
import Derived.Ground.NamesProg
import Derived.Shelf.Lay
import Derived.Shelf.Strings.Replace
import Derived.KernelRfl
namespace Go.Proofs
open Go.Shelf

shelf_lay Lays.n155 Nm 155 at Tryd as Tryd.lays155
theorem Tryd.extra155 : Builder.Extra Tryd.prog Tryd.lays155_ren where
  sizeBuilder := by kernel_rfl
  liesBuilder := by kernel_rfl
  t5 := Tryd.lays155.t5
  a5 := Tryd.lays155.a5
  z5 := Tryd.lays155.z5
  v5 := Tryd.lays155.v5
  infoByte := by kernel_rfl
  cellsByte := by kernel_rfl
  sizeByte := by kernel_rfl
  neB5 := by decide
theorem Tryd.lays166 : Lays.n166 Tryd.prog Tryd.lays155_ren := { Tryd.lays155 with }
theorem Tryd.lays169 : Lays.n169 Tryd.prog Tryd.lays155_ren := { Tryd.lays155 with }

theorem Tryd.ren_nums : Tryd.lays155_ren.f 155 = 38 ∧ Tryd.lays155_ren.g 1 = 0 ∧ Tryd.lays155_ren.f 166 = 37 ∧ Tryd.lays155_ren.f 169 = 39 ∧ Tryd.lays155_ren.t 72 = 62 ∧ Tryd.lays155_ren.t 5 = 5 := by decide
end Go.Proofs
