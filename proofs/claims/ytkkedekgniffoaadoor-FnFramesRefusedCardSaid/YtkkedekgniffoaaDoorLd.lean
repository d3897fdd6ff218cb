/-
  What the rows' listed variables give a walk: the tables of UTF-8, and io.EOF, which is not nil.
-/
import Derived.Test.YtkkedekgniffoaaDoorCt
import Derived.Test.YtkkedekgniffoaaDoorRows
import Derived.Lib.LaidU8T
namespace Go.Proofs.YtkkedekgniffoaaDoor
open Go.RowKit Go.Lib Go.Shelf

def laidL : List (String × DataW Unit) := [("unicode/utf8.acceptRanges", Rows.laid_unicode_utf8_acceptRanges), ("io.EOF", Rows.laid_io_EOF), ("unicode/utf8.first", Rows.laid_unicode_utf8_first)]
theorem first_eq : Rows.laid_unicode_utf8_first = firstData := by kernel_rfl
theorem accept_eq : (Rows.laid_unicode_utf8_acceptRanges : DataW Unit) = acceptData := by kernel_rfl
theorem u8extra : U8Extra Tryd.prog Tryd.laysValid_ren := { n3 := by kernel_rfl, n4 := by kernel_rfl, y3 := by kernel_rfl, y4 := by kernel_rfl, c5 := by kernel_rfl, c119 := by kernel_rfl, c138 := by kernel_rfl }
theorem gEOF : Tryd.prog.globalNamed "io.EOF" = some 1 := by kernel_rfl
theorem gEOFt : (Tryd.prog.globals[1]?).map (·.type) = some 46 := by kernel_rfl
theorem laid_facts {W : World} (h : laidMet Tryd.prog laidL W) : Tabs W ∧ ∃ te ve, W.cell? ⟨1, 0, none⟩ = some (.iface te ve) := by
  have h1 : VarReads Tryd.prog W "unicode/utf8.first" firstData := by
    rw [← first_eq]
    exact Go.Lib.laidMet.reads h (List.Mem.tail _ (List.Mem.tail _ (List.Mem.head _)))
  have h2 : VarReads Tryd.prog W "unicode/utf8.acceptRanges" acceptData := by
    rw [← accept_eq]
    exact Go.Lib.laidMet.reads h (List.Mem.head _)
  have h3 : VarReads Tryd.prog W "io.EOF" Rows.laid_io_EOF := Go.Lib.laidMet.reads h (List.Mem.tail _ (List.Mem.head _))
  refine ⟨utf8Tabs_of_readsT (U8Types.of196 Tryd.laysValid) u8extra h1 h2, ?_⟩
  obtain ⟨g0, t0, cs0, f0, p0, hg0, ht0, hv0, hd0⟩ := h3
  obtain rfl := Option.some.inj (gEOF.symm.trans hg0)
  obtain rfl := Option.some.inj (gEOFt.symm.trans ht0)
  obtain ⟨f1, u, v, hcs, hn, h1⟩ := iface_of_trod Tryd.underlying46 hd0
  refine ⟨u, v, ?_⟩
  have := World.var?_cell hg0 hv0 0
  rw [this, ← Array.getElem?_toList, hcs]
  rfl
end Go.Proofs.YtkkedekgniffoaaDoor
