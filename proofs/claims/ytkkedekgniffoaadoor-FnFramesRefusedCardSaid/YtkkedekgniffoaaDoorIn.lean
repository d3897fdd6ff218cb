/-
  wsReadInfo.init.
-/
import Derived.Test.YtkkedekgniffoaaDoorFb
namespace Go.Proofs.YtkkedekgniffoaaDoor
open Go.RowKit

set_option maxRecDepth 100000 in
theorem init_any (R : Nat) (r : RdV) (w : World) (hR : RdAt w R r) : Calls Tryd.prog 20 #[.pointer (some ⟨R, 0, none⟩)] w (fun e w' => e = .returned (.tuple #[]) ∧ RdAt w' R { r with fs := true, ff := true } ∧ But (fun k => k = R) w w') := by
  have HR := Lib.hid hR
  have c1 := hR.c1
  have c2 := hR.c2
  have f1 := hR.fz 1
  have f2 := hR.fz 2
  clear hR
  go_enter Tryd.func20, Tryd.ntmps20
  go_wp2_with fail
  go_end0
  exact ⟨rfl, (HR.out.set1 true).set2 true, ((But.refl (fun k => k = R) w).setCell ⟨R, 1, none⟩ (.bool true) rfl).setCell ⟨R, 2, none⟩ (.bool true) rfl⟩
end Go.Proofs.YtkkedekgniffoaaDoor
