/- What a row's listed variables give a walk: errors.errorType's handle, the blanks of strings.asciiSpace; a world in which all three are laid. -/
import Derived.Test.YtllhidkadhoipaaDoorTie
import Derived.Test.YtllhidkadhoipaaDoorFB
import Derived.LaidLaws
import Derived.LaidHandle
import Derived.Stop.Joined
import Derived.Lay
import Derived.OpenShut
namespace Go.Proofs.YtllhidkadhoipaaDoor.Ab
open Go Go.RowKit Go.Proofs Go.ChangeShapes Go.WideShapes
set_option linter.unusedVariables false

abbrev laidAt : List (String × DataW Unit) := [("errors.errorType", Rows.laid_errors_errorType), ("unicode.White_Space", Rows.laid_unicode_White_Space), ("strings.asciiSpace", Rows.laid_strings_asciiSpace)]
abbrev laidData : List (String × DataW Unit) := [("unicode.White_Space", Rows.laid_unicode_White_Space), ("strings.asciiSpace", Rows.laid_strings_asciiSpace)]

theorem et : Tryd.prog.globalNamed "errors.errorType" = some 0 := by kernel_rfl
theorem rt : (Tryd.prog.cutTypes.find? (·.1 == "internal/reflectlite.rtype")).map (·.2) = some 83 := by kernel_rfl
theorem oneRow : ((List.range 146).filter fun t => Tryd.prog.rowNamed t [101, 114, 114, 111, 114]) = [26] := by kernel_rfl
theorem tsize : Tryd.prog.types.size = 146 := by kernel_rfl
theorem halves {W : World} (h : laidMetH Tryd.prog laidAt W) : laidMet Tryd.prog laidData W ∧ handlesMet Tryd.prog [("errors.errorType", Rows.laid_errors_errorType)] W := h

theorem handle_of_laid {W : World} (h : laidMetH Tryd.prog laidAt W) : W.cell? ⟨0, 0, none⟩ = some (.iface 83 (.agg #[.pointer (some ⟨4, 26, none⟩)])) := by
  obtain ⟨name, u, ty, e1, e2, e3, e4, e5⟩ := (halves h).2 _ (List.mem_singleton.2 rfl)
  have en : name = [101, 114, 114, 111, 114] := (Option.some.inj e1).symm
  subst en
  obtain rfl := Option.some.inj (rt.symm.trans e2)
  have hm : ty ∈ (List.range 146).filter fun t => Tryd.prog.rowNamed t [101, 114, 114, 111, 114] := List.mem_filter.2 ⟨List.mem_range.2 (by rw [← tsize]; exact e3), e4⟩
  rw [oneRow] at hm
  obtain rfl := List.mem_singleton.1 hm
  have hh : typeHandle Tryd.prog 26 = .pointer (some ⟨4, 26, none⟩) := by kernel_rfl
  rw [hh] at e5
  simpa using World.var?_cell et e5 0

theorem asc_data : (Rows.laid_strings_asciiSpace : DataW Unit) = .agg ((List.range 256).map fun i => .lit (.int .u8 (blank i))) := by kernel_rfl

theorem cells_of_laid {W : World} (h : laidMetH Tryd.prog laidAt W) (r : Nat) (hr : r < 256) : W.cell? ⟨1, r, none⟩ = some (.int .u8 (blank r)) := by
  obtain ⟨ps, ⟨_, _, _, _, _, _, _, _, _, _, ⟨g, t, cs, fuel, p, q, hg, ht, hv, hd, _, _⟩, _⟩, _, _⟩ := (halves h).1
  obtain rfl := Option.some.inj ((show Tryd.prog.globalNamed "strings.asciiSpace" = some 1 by kernel_rfl).symm.trans hg)
  obtain rfl := Option.some.inj ((show (Tryd.prog.globals[1]?).map (·.type) = some 79 by kernel_rfl).symm.trans ht)
  rw [asc_data] at hd
  obtain ⟨xs, m, _, ex, _, hl, hel⟩ := DataW.trod_array Tryd.underlying79 hd
  have c5 : Tryd.prog.cellsOf 5 = 1 := by kernel_rfl
  have hE := hel r hr
  rw [c5, Nat.mul_one, List.getElem?_eq_getElem (by omega)] at hE
  obtain ⟨z, e1, e2, _⟩ := DataW.trod_int Tryd.underlying5 hE
  have e3 : (xs.map (·.1)) = (List.range 256).map fun i => .lit (.int .u8 (blank i)) := (DataW.agg.inj (Prod.mk.inj ex).1).symm
  have e4 : (xs.map (·.1))[r]? = ((List.range 256).map fun i => (DataW.lit (.int .u8 (blank i)) : DataW Unit))[r]? := by rw [e3]
  rw [List.getElem?_map, List.getElem?_map, List.getElem?_eq_getElem (by omega : r < xs.length), List.getElem?_range hr, e2] at e4
  have hz : z = blank r := by
    simpa only [Option.map_some, Option.some.injEq, DataW.lit.injEq, Lit.int.injEq, true_and] using e4
  rw [World.var?_cell hg hv r, ← hz]
  have : cs.toList[r]? = some (.int .u8 z) := by
    have h0 : ((cs.toList.drop r).take 1)[0]? = some (.int .u8 z) := by rw [e1]; rfl
    simpa using h0
  simpa using this

theorem block_of_cell {W : World} {b o : Nat} {v : Value} (h : W.cell? ⟨b, o, none⟩ = some v) : b < W.heap.size := by
  rcases Nat.lt_or_ge b W.heap.size with h' | h'
  · exact h'
  · have : W.heap[b]? = none := Array.getElem?_eq_none h'
    simp [World.cell?, this] at h

theorem base_of {W : World} (h : laidMetH Tryd.prog laidAt W) : Base (Low W) W :=
  ⟨block_of_cell (handle_of_laid h), handle_of_laid h, block_of_cell (cells_of_laid h 0 (by decide)), cells_of_laid h⟩

/-- A world that meets the condition. -/
noncomputable def w00 (os : Os) : World :=
  let w0 := World.holding Tryd.prog os ⟨#[], #[], []⟩
  { w0 with heap := w0.heap.modify 0 fun
      | .cells _ t frozen => .cells #[.iface 83 (.agg #[.pointer (some ⟨4, 26, none⟩)])] t frozen
      | o => o }
noncomputable def laidW (os : Os) : World := (w00 os).layVars Tryd.prog laidData
theorem laidW_os (os : Os) : (laidW os).os = os := World.layVars_os _ _ _

theorem laidW_met (os : Os) (args : Array Value) : laidMetH Tryd.prog laidAt ((laidW os).forCall (fun _ _ => 0) ⟨#[], args, []⟩).memory := by
  refine laidMetH_of_parts ?_ (by kernel_rfl)
  show laidMet Tryd.prog laidData _
  have e1 : (laidData.filter fun x => (laidData.map (·.1)).contains x.1) = laidData := List.filter_eq_self.2 fun x hx => List.contains_iff_mem.2 (List.mem_map.2 ⟨x, hx, rfl⟩)
  have e2 : (laidData.filter fun x => !(laidData.map (·.1)).contains x.1) = [] := List.filter_eq_nil_iff.2 fun x hx => by rw [List.contains_iff_mem.2 (List.mem_map.2 ⟨x, hx, rfl⟩)]; simp
  have hl : laidMet Tryd.prog laidData (laidW os) := laidMet_layVars (w0 := w00 os) (laidData.map (·.1)) [] (by rw [e1]; rfl) (by rw [e1]; kernel_rfl) (by rw [e1]; kernel_rfl) (by rw [e2]; exact LaidIn.none)
  exact hl.of_heap (by simp [World.memory, World.forCall, Input.heap])

theorem laidW_shaped (os : Os) (args : Array Value) : ((laidW os).forCall (fun _ _ => 0) ⟨#[], args, []⟩).Shaped Tryd.prog :=
  World.shaped_of_ZipB (by kernel_rfl) (by kernel_rfl)
end Go.Proofs.YtllhidkadhoipaaDoor.Ab
