/-
  Deeds in a row of the call's own.
-/
import Derived.Test.YtchphfdoneckeaaDoorAk
import Derived.Test.YtchphfdoneckeaaDoorSk
import Derived.Test.YtchphfdoneckeaaDoorPl
namespace Go.Proofs.YtchphfdoneckeaaDoor
open Go.RowKit
open Cs (Wt Kp)

def ddCells (dd : Nat → Dd) (n : Nat) : List Value := (List.range n).flatMap fun j => (dd j).row.toList
theorem ddCells_step (dd : Nat → Dd) (n : Nat) : ddCells dd (n + 1) = ddCells dd n ++ (dd n).row.toList := by unfold ddCells; rw [List.range_succ, List.flatMap_append]; simp
theorem ddCells_len (dd : Nat → Dd) : ∀ n, (ddCells dd n).length = n * 11
  | 0 => rfl
  | n + 1 => by rw [ddCells_step, List.length_append, ddCells_len dd n, Array.length_toList, Dd.size]; omega
theorem ddCells_congr {dd dd' : Nat → Dd} {n : Nat} (h : ∀ i, i < n → dd i = dd' i) : ddCells dd n = ddCells dd' n := by
  unfold ddCells
  rw [List.flatMap_def, List.flatMap_def]
  congr 1
  apply List.map_congr_left
  intro j hj
  rw [h j (List.mem_range.1 hj)]
theorem dd_get (dd : Nat → Dd) : ∀ (n i j : Nat), i < n → j < 11 → (ddCells dd n)[i * 11 + j]? = (dd i).row[j]?
  | 0, i, j, h, _ => by omega
  | n + 1, i, j, h, hj => by
    rw [ddCells_step]
    by_cases hi : i < n
    · rw [List.getElem?_append_left (by rw [ddCells_len]; omega)]
      exact dd_get dd n i j hi hj
    · obtain rfl : i = n := by omega
      rw [List.getElem?_append_right (by rw [ddCells_len]; omega), ddCells_len]
      rw [show i * 11 + j - i * 11 = j by omega]
      simp
theorem deeds_of_own {w : World} {base n cap : Nat} {A : Option Addr} {dd : Nat → Dd} (h : w.ownsRow base 37 11 (.slice A n cap) n (ddCells dd n)) : DeedsAt w A n dd := by
  intro hn
  obtain ⟨g, cap', e, _, _, hg, hc⟩ := own_slice h hn
  cases e
  refine ⟨g, 0, rfl, hg, fun i hi j v hv => ?_⟩
  have hj : j < 11 := by have := (Array.getElem?_eq_some_iff.1 hv).1; rwa [Dd.size] at this
  have := hc (i * 11 + j) v ((dd_get dd n i j hi hj).trans hv)
  simpa using this
theorem info37 : ∃ i : TypeInfo, Tryd.prog.info? 37 = some i ∧ i.zero = some (.agg #[.int .i64 0, .int .u64 0, .int .u64 0, .int .u64 0, .int .i64 0, .int .u64 0, .int .u64 0, .int .u64 0, .int .u64 0, .slice none 0 0, .slice none 0 0]) ∧ i.size = 11 ∧ i.bytes = 120 := ⟨(Tryd.prog.info? 37).get (by kernel_rfl), by kernel_rfl, by kernel_rfl, by kernel_rfl, by kernel_rfl⟩
theorem quiet_of_yes {P : Program} {f : FuncId} {args : Array Value} {W w : World} (hw : K.Grew W w) (h : Calls P f args w (K.Yes w)) : Calls P f args w (fun e w' => e = .returned (.bool true) ∧ K.Grew W w') :=
  h.mono fun _ _ ⟨he, hb⟩ => ⟨he, hw.then hb⟩
theorem WAt.grew {W w : World} {A : Option Addr} {l : List Wt} (h : WAt W A l) (hw : K.Grew W w) : WAt w A l := h.but (But.of (S := fun _ => False) hw) (fun _ _ h => h)
end Go.Proofs.YtchphfdoneckeaaDoor
