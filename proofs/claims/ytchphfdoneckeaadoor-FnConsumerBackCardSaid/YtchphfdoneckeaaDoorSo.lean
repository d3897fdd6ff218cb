/-
  sort.Slice of what waits (and of what was delivered again), with keep's own closures.
-/
import Derived.Test.YtchphfdoneckeaaDoorPr
import Derived.Test.YtchphfdoneckeaaDoorShelf
import Derived.Shelf.GgSortFunc.SmallK
import Derived.Shelf.GgSortFunc.Tiny
namespace Go.Proofs.YtchphfdoneckeaaDoor
open Go.RowKit Go.Sort Go.Lib
open Cs (Wt Kp)

instance : Inhabited Wt := ⟨⟨0, 0, 0⟩⟩
def encW (x : Wt) : List Value := [.int .u64 (x.s : Int), .int .u64 (x.c : Int), .int .i64 x.t]
def ltW (a b : Wt) : Bool := decide ((a.s : Int) < (b.s : Int))
theorem swo_ltW : SWO ltW where
  irrefl := fun x => by simp [ltW]
  trans := fun x y z h1 h2 => by simp [ltW] at *; omega
  ntrans := fun x y z h1 h2 => by simp [ltW] at *; omega
theorem svT : ∃ i : TypeInfo, Tryd.prog.info? 28 = some i ∧ i.desc = .slice 47 := ⟨(Tryd.prog.info? 28).get (by kernel_rfl), by kernel_rfl, by kernel_rfl⟩
theorem svE : ∃ i : TypeInfo, Tryd.prog.info? 47 = some i ∧ i.size = 3 ∧ i.hasPointers = false ∧ i.bytes = 24 := ⟨(Tryd.prog.info? 47).get (by kernel_rfl), by kernel_rfl, by kernel_rfl, by kernel_rfl, by kernel_rfl⟩

set_option maxHeartbeats 2000000 in
set_option maxRecDepth 100000 in
theorem less_waits (blk off c Bs size : Nat) (W : World) (G : Nat → Int) (hs : W.cell? ⟨Bs, 4, none⟩ = some (.slice (some ⟨blk, off, none⟩) size c))
    (hc : ∀ t, t < size → W.cell? ⟨blk, off + t * 3, none⟩ = some (.int .u64 (G t))) (i j : Nat) (hi : i < size) (hj : j < size) (_hsz : size < 4611686018427387904) :
    Calls Tryd.prog 32 #[.int .i64 i, .int .i64 j, .pointer (some ⟨Bs, 0, none⟩)] W fun e w' => e = .returned (.bool (decide (G i < G j))) ∧ ∃ q, w' = W.drewN q := by
  have ci := hc i hi
  have cj := hc j hj
  go_enter Tryd.func32, Tryd.ntmps32
  go_wp2
  go_quiet (fail)
  go_wp2
  go_ret
  exact ⟨rfl, nq, rfl⟩

theorem swapK {n : Nat} (h2 : 2 ≤ n) {ie : TypeInfo} (ha : ie.hasPointers = false) (hb : ie.bytes = 24) : Lib.swapperK n ie 25 = 9 := by
  have c : (n == 0) = false := by simp; omega
  have d : (n == 1) = false := by simp; omega
  simp [Lib.swapperK, ha, hb, c, d]
set_option maxHeartbeats 2000000 in
set_option maxRecDepth 100000 in
theorem sort_rows (blk c ob : Nat) (d : Array Wt) (h2 : 2 ≤ d.size) (h12 : d.size ≤ 12) (w : World) (hH : HoldsK encW 3 w blk 0 d) (hblk : blk < w.heap.size)
    (hout : w.cell? ⟨ob, 4, none⟩ = some (.slice (some ⟨blk, 0, none⟩) d.size c)) (hne : ob ≠ blk) :
    Calls Tryd.prog 31 #[.iface 28 (.slice (some ⟨blk, 0, none⟩) d.size c), .func (.func 32) #[] #[.pointer (some ⟨ob, 0, none⟩)]] w fun e w' =>
      e = .returned (.tuple #[]) ∧ ∃ d' n os, PermIn 0 d.size d d' ∧ SortedIn ltW 0 d.size d' ∧ w' = grow (putRowK encW 3 (Sort.ahead w n) blk 0 d') os := by
  obtain ⟨i, hi, hd⟩ := svT
  obtain ⟨ie, hie, hs3, hp, hb⟩ := svE
  have hob := World.block_lt_of_cell? w _ hout
  have hless : LessReadsK Tryd.prog 32 #[.pointer (some ⟨ob, 0, none⟩)] encW 3 ltW blk 0 d.size w := by
    intro m os dk hs i j hi hj
    have hh : HoldsK encW 3 (sortWorldK encW 3 w blk 0 m dk os) blk 0 dk := by
      unfold sortWorldK
      refine holdsK_grow _ _ _ _ _ _ _ ?_ (holdsK_putRowK _ _ _ blk 0 d dk (holdsK_ahead _ _ _ _ _ _ _ hH) hs)
      show blk < (putRowK encW 3 (Sort.ahead w m) blk 0 dk).heap.size
      simp only [putRowK, putRow, mapBlock]
      simpa using hblk
    refine less_waits blk 0 c ob d.size _ (fun t => (dk[t]!.s : Int)) ?_ (fun t ht => (hh.cell (i := t) (c := 0) (by omega) (by omega)).1) i j hi hj (by omega)
    unfold sortWorldK
    rw [cell?_grow _ _ _ (by simp only [putRowK, putRow, mapBlock]; simpa using hob), cell?_putRowK_other _ _ _ blk 0 dk _ (by exact hne)]
    exact hout
  exact Any.sort_Slice_small_cells_sorted Tryd.laysGg6 28 47 i ie hi hd (by kernel_rfl) hie 25 (fun _ => by kernel_rfl) encW 3 (fun _ => rfl) hs3 (fun _ => by kernel_rfl)
    (fun x v hv => by simp [encW] at hv; rcases hv with rfl | rfl | rfl <;> rfl) ltW swo_ltW 32 _
    (enters_of Tryd.func32 (by kernel_rfl) rfl) blk 0 c d h2 h12 63 (by rw [swapK h2 hp hb]; kernel_rfl) false
    (fun args W => run_callFunc_extern Tryd.func63 (by kernel_rfl) (by kernel_rfl) (by kernel_rfl) (e := Extern.ReflectliteSwapper.swap false) (by kernel_rfl) args W) _ hless hH hblk
theorem sort_few (A : Option Addr) (n c : Nat) (h1 : n ≤ 1) (lf : Fn) (la lb : Array Value) (w : World) :
    Calls Tryd.prog 31 #[.iface 28 (.slice A n c), .func lf la lb] w fun e w' => e = .returned (.tuple #[]) ∧ ∃ os, w' = grow w os := by
  obtain ⟨i, hi, hd⟩ := svT
  obtain ⟨ie, hie, hs3, hp, hb⟩ := svE
  have h : n = 0 ∨ n = 1 := by omega
  rcases h with rfl | rfl
  · exact Any.sort_Slice_tiny Tryd.laysGg6 28 47 i ie hi hd (by kernel_rfl) hie 25 (fun _ => by kernel_rfl) A 0 c (by omega) 55 (by simp only [Lib.swapperK]; kernel_rfl) lf la lb w
  · exact Any.sort_Slice_tiny Tryd.laysGg6 28 47 i ie hi hd (by kernel_rfl) hie 25 (fun _ => by kernel_rfl) A 1 c (by omega) 56 (by simp only [Lib.swapperK]; kernel_rfl) lf la lb w
end Go.Proofs.YtchphfdoneckeaaDoor
