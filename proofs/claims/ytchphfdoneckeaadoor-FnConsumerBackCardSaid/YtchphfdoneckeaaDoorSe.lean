/-
  A row of bools of the call's own: who has been seen.
-/
import Derived.Test.YtchphfdoneckeaaDoorDr
import Derived.Test.YtchphfdoneckeaaDoorSd
import Derived.Test.YtchphfdoneckeaaDoorPo
import Derived.OwnWalk
import Derived.Laws.OwnMore
namespace Go.Proofs.YtchphfdoneckeaaDoor
open Go.RowKit
open Cs (Wt Kp)

theorem info4 : ∃ i : TypeInfo, Tryd.prog.info? 4 = some i ∧ i.zero = some (.bool false) ∧ i.size = 1 ∧ i.bytes = 1 := ⟨(Tryd.prog.info? 4).get (by kernel_rfl), by kernel_rfl, by kernel_rfl, by kernel_rfl, by kernel_rfl⟩
def seenA (n : Nat) (p : Nat → Bool) : Array Value := ((List.range n).map fun j => Value.bool (p j)).toArray
theorem seen_zero (n : Nat) : (madeCells (Value.bool false).cells (n * 1)).toList = (seenA n (fun _ => false)).toList := by
  rw [show (Value.bool false).cells = #[.bool false] from rfl, toList_madeCells_one, seenA]
  simp only [Nat.mul_one]
  refine (List.eq_replicate_iff.2 ⟨by simp, fun x hx => ?_⟩).symm
  simp only [List.mem_map] at hx
  obtain ⟨_, _, rfl⟩ := hx; rfl
theorem seen_set (n k : Nat) (p : Nat → Bool) : (seenA n p).setIfInBounds k (.bool true) = seenA n (fun j => p j || decide (k = j)) := by
  unfold seenA
  apply Array.ext
  · simp
  · intro i h1 h2
    simp only [List.size_toArray, List.length_map, List.length_range] at h2
    simp only [List.setIfInBounds_toArray, List.getElem_toArray, List.getElem_set, List.getElem_map, List.getElem_range]
    by_cases h : k = i
    · subst h; simp
    · rw [if_neg h]
      simp [h]
theorem seen_at {w : World} {M n q : Nat} {p : Nat → Bool} (h : w.heap[M]? = some (.cells (seenA n p) 4 (0, 0))) (hq : q < n) : w.cell? ⟨M, q, none⟩ = some (.bool (p q)) := by
  simp [World.cell?, h, seenA, hq]
theorem row_seen {w : World} {B M n : Nat} (h : w.ownsRow B 4 1 (.slice (some ⟨M, 0, none⟩) n n) n (madeCells (Value.bool false).cells (n * 1)).toList) : w.heap[M]? = some (.cells (seenA n (fun _ => false)) 4 (0, 0)) := by
  rcases h.2 with ⟨h', _⟩ | ⟨g, cap, cur, e, _, hg, _, _, hs, ht⟩
  · cases h'
  · simp only [Value.slice.injEq, Option.some.injEq, Addr.mk.injEq, and_true, true_and] at e
    obtain ⟨rfl, rfl⟩ := e
    rw [hg]
    congr 2
    rw [seen_zero, List.take_of_length_le (by simp [hs])] at ht
    exact Array.ext' ht
theorem seen_ext (n : Nat) {p p' : Nat → Bool} (h : ∀ j, j < n → p j = p' j) : seenA n p = seenA n p' := by
  unfold seenA
  congr 1
  apply List.map_congr_left
  intro j hj
  rw [h j (List.mem_range.1 hj)]
theorem load_keep {w : World} {b o : Nat} (k : Kp) (A : Option Addr) (c : Nat) (h : ∀ (r : Nat) (v : Value), (keepCells k A c)[r]? = some v → w.cell? ⟨b, o + r, none⟩ = some v) : (Instr.loadAt 31 (.pointer (some ⟨b, o, none⟩))).run Tryd.prog w = .ok (keepV k A c (.slice none 0 0)) w := by
  have hl : (loadCells ⟨b, o, none⟩ (keepCells k A c).length).run Tryd.prog w = .ok (keepCells k A c).toArray w :=
    run_loadCells_list (P := Tryd.prog) w ⟨b, o, none⟩ (keepCells k A c) (fun j v hv => by
      have hadd : (⟨b, o, none⟩ : Addr).add j = ⟨b, o + j, none⟩ := by unfold Addr.add; split <;> simp_all
      rw [hadd]
      exact h j v hv)
  have hlen : (keepCells k A c).length = 6 := rfl
  rw [hlen] at hl
  simp [Instr.loadAt, Instr.sureAddr, loadVar, Sem.run_bind, Tryd.isAgg31, Tryd.sizeOf31, hl, keepV, keepCells]
end Go.Proofs.YtchphfdoneckeaaDoor
