/-
  What the rows' listed variables give a walk: ErrStoreMsgNotFound is not nil.
-/
import Derived.Test.YtchphfdoneckeaaDoorAk
import Derived.Test.YtchphfdoneckeaaDoorRows
import Derived.Lib.LaidU8T
namespace Go.Proofs.YtchphfdoneckeaaDoor
open Go.RowKit Go.Lib Go.Shelf

theorem gMiss : Tryd.prog.globalNamed "pub-streamkeep/pub/natsserver/server.ErrStoreMsgNotFound" = some 1 := by kernel_rfl
theorem gMissT : (Tryd.prog.globals[1]?).map (·.type) = some 59 := by kernel_rfl
theorem miss_iface {W : World} (h3 : VarReads Tryd.prog W "pub-streamkeep/pub/natsserver/server.ErrStoreMsgNotFound" (Rows.laid_pub_streamkeep_pub_natsserver_server_ErrStoreMsgNotFound : DataW Unit)) : ∃ te ve, W.cell? ⟨1, 0, none⟩ = some (.iface te ve) := by
  obtain ⟨g0, t0, cs0, f0, p0, hg0, ht0, hv0, hd0⟩ := h3
  obtain rfl := Option.some.inj (gMiss.symm.trans hg0)
  obtain rfl := Option.some.inj (gMissT.symm.trans ht0)
  obtain ⟨f1, u, v, hcs, hn, h1⟩ := iface_of_trod Tryd.underlying59 hd0
  refine ⟨u, v, ?_⟩
  have := World.var?_cell hg0 hv0 0
  rw [this, ← Array.getElem?_toList, hcs]
  rfl
end Go.Proofs.YtchphfdoneckeaaDoor
