/-
  A slice of what was delivered again, sorted by sort.Slice with keep's own closure.
-/
import Derived.Test.YtchphfdoneckeaaDoorSw
import Derived.Test.YtchphfdoneckeaaDoorRm
namespace Go.Proofs.YtchphfdoneckeaaDoor
open Go.RowKit Go.Sort Go.Lib
open Cs (Ag)


instance : Inhabited Ag := ⟨⟨0, 0⟩⟩
def encA (x : Ag) : List Value := [.int .u64 (x.s : Int), .int .u64 (x.n : Int)]
def ltA (a b : Ag) : Bool := decide ((a.s : Int) < (b.s : Int))
theorem swo_ltA : SWO ltA where
  irrefl := fun x => by simp [ltA]
  trans := fun x y z h1 h2 => by simp [ltA] at *; omega
  ntrans := fun x y z h1 h2 => by simp [ltA] at *; omega
theorem saT : ∃ i : TypeInfo, Tryd.prog.info? 29 = some i ∧ i.desc = .slice 49 := ⟨(Tryd.prog.info? 29).get (by kernel_rfl), by kernel_rfl, by kernel_rfl⟩
theorem saE : ∃ i : TypeInfo, Tryd.prog.info? 49 = some i ∧ i.size = 2 ∧ i.hasPointers = false ∧ i.bytes = 16 := ⟨(Tryd.prog.info? 49).get (by kernel_rfl), by kernel_rfl, by kernel_rfl, by kernel_rfl, by kernel_rfl⟩

set_option maxHeartbeats 2000000 in
set_option maxRecDepth 100000 in
theorem less_again (blk off c Bs size : Nat) (W : World) (G : Nat → Int) (hs : W.cell? ⟨Bs, 5, none⟩ = some (.slice (some ⟨blk, off, none⟩) size c))
    (hc : ∀ t, t < size → W.cell? ⟨blk, off + t * 2, none⟩ = some (.int .u64 (G t))) (i j : Nat) (hi : i < size) (hj : j < size) (_hsz : size < 4611686018427387904) :
    Calls Tryd.prog 33 #[.int .i64 i, .int .i64 j, .pointer (some ⟨Bs, 0, none⟩)] W fun e w' => e = .returned (.bool (decide (G i < G j))) ∧ ∃ q, w' = W.drewN q := by
  have ci := hc i hi
  have cj := hc j hj
  go_enter Tryd.func33, Tryd.ntmps33
  go_wp2
  go_quiet (fail)
  go_wp2
  go_ret
  exact ⟨rfl, nq, rfl⟩

theorem swapA {n : Nat} (h2 : 2 ≤ n) {ie : TypeInfo} (ha : ie.hasPointers = false) (hb : ie.bytes = 16) : Lib.swapperK n ie 25 = 9 := by
  have c : (n == 0) = false := by simp; omega
  have d : (n == 1) = false := by simp; omega
  simp [Lib.swapperK, ha, hb, c, d]
set_option maxHeartbeats 2000000 in
set_option maxRecDepth 100000 in
theorem sort_rowsA (blk c ob : Nat) (d : Array Ag) (h2 : 2 ≤ d.size) (h12 : d.size ≤ 12) (w : World) (hH : HoldsK encA 2 w blk 0 d) (hblk : blk < w.heap.size)
    (hout : w.cell? ⟨ob, 5, none⟩ = some (.slice (some ⟨blk, 0, none⟩) d.size c)) (hne : ob ≠ blk) :
    Calls Tryd.prog 31 #[.iface 29 (.slice (some ⟨blk, 0, none⟩) d.size c), .func (.func 33) #[] #[.pointer (some ⟨ob, 0, none⟩)]] w fun e w' =>
      e = .returned (.tuple #[]) ∧ ∃ d' n os, PermIn 0 d.size d d' ∧ SortedIn ltA 0 d.size d' ∧ w' = grow (putRowK encA 2 (Sort.ahead w n) blk 0 d') os := by
  obtain ⟨i, hi, hd⟩ := saT
  obtain ⟨ie, hie, hs2, hp, hb⟩ := saE
  have hob := World.block_lt_of_cell? w _ hout
  have hless : LessReadsK Tryd.prog 33 #[.pointer (some ⟨ob, 0, none⟩)] encA 2 ltA blk 0 d.size w := by
    intro m os dk hs i j hi hj
    have hh : HoldsK encA 2 (sortWorldK encA 2 w blk 0 m dk os) blk 0 dk := by
      unfold sortWorldK
      refine holdsK_grow _ _ _ _ _ _ _ ?_ (holdsK_putRowK _ _ _ blk 0 d dk (holdsK_ahead _ _ _ _ _ _ _ hH) hs)
      show blk < (putRowK encA 2 (Sort.ahead w m) blk 0 dk).heap.size
      simp only [putRowK, putRow, mapBlock]
      simpa using hblk
    refine less_again blk 0 c ob d.size _ (fun t => (dk[t]!.s : Int)) ?_ (fun t ht => (hh.cell (i := t) (c := 0) (by omega) (by omega)).1) i j hi hj (by omega)
    unfold sortWorldK
    rw [cell?_grow _ _ _ (by simp only [putRowK, putRow, mapBlock]; simpa using hob), cell?_putRowK_other _ _ _ blk 0 dk _ (by exact hne)]
    exact hout
  exact Any.sort_Slice_small_cells_sorted Tryd.laysGg6 29 49 i ie hi hd (by kernel_rfl) hie 25 (fun _ => by kernel_rfl) encA 2 (fun _ => rfl) hs2 (fun _ => by kernel_rfl)
    (fun x v hv => by simp [encA] at hv; rcases hv with rfl | rfl <;> rfl) ltA swo_ltA 33 _
    (enters_of Tryd.func33 (by kernel_rfl) rfl) blk 0 c d h2 h12 63 (by rw [swapA h2 hp hb]; kernel_rfl) false
    (fun args W => run_callFunc_extern Tryd.func63 (by kernel_rfl) (by kernel_rfl) (by kernel_rfl) (e := Extern.ReflectliteSwapper.swap false) (by kernel_rfl) args W) _ hless hH hblk
theorem sort_fewA (A : Option Addr) (n c : Nat) (h1 : n ≤ 1) (lf : Fn) (la lb : Array Value) (w : World) :
    Calls Tryd.prog 31 #[.iface 29 (.slice A n c), .func lf la lb] w fun e w' => e = .returned (.tuple #[]) ∧ ∃ os, w' = grow w os := by
  obtain ⟨i, hi, hd⟩ := saT
  obtain ⟨ie, hie, hs2, hp, hb⟩ := saE
  have h : n = 0 ∨ n = 1 := by omega
  rcases h with rfl | rfl
  · exact Any.sort_Slice_tiny Tryd.laysGg6 29 49 i ie hi hd (by kernel_rfl) hie 25 (fun _ => by kernel_rfl) A 0 c (by omega) 55 (by simp only [Lib.swapperK]; kernel_rfl) lf la lb w
  · exact Any.sort_Slice_tiny Tryd.laysGg6 29 49 i ie hi hd (by kernel_rfl) hie 25 (fun _ => by kernel_rfl) A 1 c (by omega) 56 (by simp only [Lib.swapperK]; kernel_rfl) lf la lb w


/-- what waits lies in a slice that begins at A -/
def AAt (w : World) (A : Option Addr) (l : List Ag) : Prop := l ≠ [] → ∃ b o, A = some ⟨b, o, none⟩ ∧ b < w.heap.size ∧ ∀ i x, l[i]? = some x →
  w.cell? ⟨b, o + i * 2, none⟩ = some (.int .u64 (x.s : Int)) ∧ w.cell? ⟨b, o + i * 2 + 1, none⟩ = some (.int .u64 (x.n : Int))
theorem flatA_get (l : List Ag) : ∀ (i r : Nat), r < 2 → (l.flatMap encA)[i * 2 + r]? = (l[i]?).bind fun x => (encA x)[r]? := by
  induction l with
  | nil => intro i r _; simp
  | cons y l ih =>
    intro i r hr
    rw [List.flatMap_cons]
    cases i with
    | zero =>
      rw [List.getElem?_append_left (by simp [encA]; omega)]
      simp
    | succ i =>
      rw [List.getElem?_append_right (by simp [encA]; omega)]
      have : (i + 1) * 2 + r - (encA y).length = i * 2 + r := by simp [encA]; omega
      rw [this, ih i r hr]
      simp
theorem flatA_length (l : List Ag) : (l.flatMap encA).length = l.length * 2 := by
  induction l with
  | nil => rfl
  | cons y l ih => rw [List.flatMap_cons, List.length_append, ih]; simp [encA]; omega
theorem aat_of_cells {w : World} {b : Nat} {l : List Ag} (hb : b < w.heap.size) (h : ∀ j u, (l.flatMap encA)[j]? = some u → w.cell? ⟨b, j, none⟩ = some u) : AAt w (some ⟨b, 0, none⟩) l := by
  intro _
  refine ⟨b, 0, rfl, hb, fun i x hx => ?_⟩
  have h0 := h (i * 2 + 0) _ ((flatA_get l i 0 (by omega)).trans (by rw [hx]; rfl))
  have h1 := h (i * 2 + 1) _ ((flatA_get l i 1 (by omega)).trans (by rw [hx]; rfl))
  simp only [Nat.zero_add]
  exact ⟨h0, h1⟩
theorem ownA_cells {w : World} {base g n cap : Nat} {l : List Ag} (h : w.ownsRow base 49 2 (.slice (some ⟨g, 0, none⟩) n cap) n (l.flatMap encA)) : g < w.heap.size ∧ ∀ j u, (l.flatMap encA)[j]? = some u → w.cell? ⟨g, j, none⟩ = some u ∧ w.frozen? ⟨g, j, none⟩ = false := by
  rcases h.2 with ⟨h1, _⟩ | ⟨g', cap', cur, h1, h2, h3, h4, h5, h6, h7⟩
  · cases h1
  · cases h1
    refine ⟨lt_of_heap h3, fun j u hu => ⟨?_, thawed h3 j⟩⟩
    refine cell_of h3 ?_
    rw [← h7] at hu
    have := List.getElem?_take (l := cur.toList) (i := n * 2) (j := j)
    rw [this] at hu
    split at hu
    · simpa using hu
    · cases hu
theorem sortedA_eq {d' : Array Ag} {l : List Ag} (hp : d'.toList.Perm l) (hs : SortedIn ltA 0 d'.size d') (hu : Cs.AUp l) : d'.toList = l := by
  have h1 : d'.toList.Pairwise (fun a b => a.s ≤ b.s) := by
    rw [List.pairwise_iff_getElem]
    intro i j hi hj hij
    have := hs i j (Nat.zero_le _) hij (by simpa using hj)
    rw [getElem!_pos d' i (by simpa using hi), getElem!_pos d' j (by simpa using hj)] at this
    simp [ltA] at this
    simpa using this
  have h2 : l.Pairwise (fun a b => a.s ≤ b.s) := hu.imp (fun h => by omega)
  exact List.Perm.eq_of_pairwise (le := fun a b => a.s ≤ b.s) (fun a b ha hb h3 h4 => Cs.aup_inj hu (hp.mem_iff.1 ha) hb (by omega)) h1 h2 hp

theorem butA_put {w : World} {n blk off : Nat} {d : Array Ag} : But (fun j => j = blk) w (putRowK encA 2 (Sort.ahead w n) blk off d) := by
  refine ⟨rfl, rfl, rfl, by simp [putRowK, putRow, mapBlock], fun k hk hs => ?_⟩
  simp only [putRowK, putRow, mapBlock]
  simp [Array.getElem?_modify, Ne.symm hs]
theorem holdsA_own {w : World} {g : Nat} {l : List Ag} (h : ∀ j u, (l.flatMap encA)[j]? = some u → w.cell? ⟨g, j, none⟩ = some u ∧ w.frozen? ⟨g, j, none⟩ = false) : HoldsK encA 2 w g 0 l.toArray := by
  intro j hj
  rw [size_flatK] at hj
  have hj' : j < l.length * 2 := by simpa using hj
  obtain ⟨i, r, hr, rfl⟩ : ∃ i r, r < 2 ∧ j = i * 2 + r := ⟨j / 2, j % 2, Nat.mod_lt _ (by omega), by omega⟩
  have hi : i < l.length := by omega
  rw [get_flatK _ _ _ _ hj]
  have e1 : (i * 2 + r) / 2 = i := by omega
  have e2 : (i * 2 + r) % 2 = r := by omega
  rw [e1, e2]
  have hx : l.toArray[i]! = l[i] := by simp [hi]
  rw [hx]
  have hg := flatA_get l i r hr
  rw [List.getElem?_eq_getElem hi] at hg
  simp only [Option.bind_some] at hg
  have hlen : r < (encA l[i]).length := by simp [encA]; omega
  rw [List.getElem?_eq_getElem hlen] at hg
  obtain ⟨h1, h2⟩ := h _ _ hg
  rw [Nat.zero_add]
  refine ⟨?_, h2⟩
  rw [h1]
  congr 1
  simp [hlen]
theorem holds_aat {w : World} {g : Nat} {d : Array Ag} (h : HoldsK encA 2 w g 0 d) (hg : g < w.heap.size) : AAt w (some ⟨g, 0, none⟩) d.toList := by
  intro _
  refine ⟨g, 0, rfl, hg, fun i x hx => ?_⟩
  have hi : i < d.size := by have := (List.getElem?_eq_some_iff.1 hx).1; simpa using this
  have hx' : d[i]! = x := by
    rw [Array.getElem?_toList, Array.getElem?_eq_getElem hi] at hx
    rw [getElem!_pos d i hi]
    exact Option.some.inj hx
  have h0 := (h.cell (i := i) (c := 0) hi (by omega)).1
  have h1 := (h.cell (i := i) (c := 1) hi (by omega)).1
  rw [hx'] at h0 h1
  exact ⟨h0, h1⟩

def SortPostA (A : Option Addr) (l : List Ag) (w : World) (e : Ending) (w' : World) : Prop := e = .returned (.tuple #[]) ∧ AAt w' A l ∧ But (fun j => ∃ a, A = some a ∧ j = a.block) w w'
theorem sort_again (base ob n cap : Nat) (A : Option Addr) (xs l : List Ag) (w : World) (hrow : w.ownsRow base 49 2 (.slice A n cap) n (xs.flatMap encA)) (hn : n ≤ 12) (hout : w.cell? ⟨ob, 5, none⟩ = some (.slice A n cap)) (hA : ∀ a, A = some a → a.block ≠ ob)
    (hp : xs.Perm l) (hu : Cs.AUp l) : Calls Tryd.prog 31 #[.iface 29 (.slice A n cap), .func (.func 33) #[] #[.pointer (some ⟨ob, 0, none⟩)]] w (SortPostA A l w) := by
  have hxl : xs.length = n := by have := hrow.1; rw [flatA_length] at this; omega
  by_cases h1 : n ≤ 1
  · refine (sort_fewA A n cap h1 _ _ _ w).mono ?_
    rintro e w' ⟨rfl, os, rfl⟩
    have hb : But (fun j => ∃ a, A = some a ∧ j = a.block) w (grow w os) := but_grow (But.refl _ w) os
    refine ⟨rfl, ?_, hb⟩
    have hxl' : xs = l := by
      match xs, hxl with
      | [], _ => exact (List.nil_perm.1 hp).symm
      | [x], _ => exact List.singleton_perm.1 hp
      | _ :: _ :: _, h => simp at h; omega
    subst hxl'
    rcases hrow.2 with ⟨h3, h4⟩ | ⟨g, cap', cur, h3, _⟩
    · intro hne
      subst h4
      exact absurd (List.eq_nil_of_length_eq_zero hxl) hne
    · cases h3
      obtain ⟨hg, hc⟩ := ownA_cells hrow
      exact aat_of_cells (Nat.lt_of_lt_of_le hg hb.size) (fun j u hu => (cell?_grow w os _ hg).trans (hc j u hu).1)
  · rcases hrow.2 with ⟨h3, h4⟩ | ⟨g, cap', cur, h3, _⟩
    · omega
    · cases h3
      obtain ⟨hg, hc⟩ := ownA_cells hrow
      have hH := holdsA_own hc
      have hs := sort_rowsA g cap ob xs.toArray (by simp; omega) (by simp; omega) w hH hg (by simpa [hxl] using hout) (fun e => hA _ rfl e.symm)
      simp only [List.size_toArray, hxl] at hs
      refine hs.mono ?_
      rintro e w' ⟨rfl, d', m, os, hP, hS, rfl⟩
      have hb0 : But (fun j => j = g) w (putRowK encA 2 (Sort.ahead w m) g 0 d') := butA_put
      have hsz : d'.size = n := by have := hP.1; simpa [hxl] using this
      have hpl : d'.toList.Perm l := by
        have h5 := hP.2.2
        have e1 : d'.extract 0 n = d' := by rw [← hsz]; simp
        have e2 : xs.toArray.extract 0 n = xs.toArray := by rw [← hxl]; simp
        rw [e1, e2] at h5
        exact h5.trans (by simpa using hp)
      have hSS : SortedIn ltA 0 d'.size d' := by rw [hsz]; exact hS
      have hdl := sortedA_eq hpl hSS hu
      refine ⟨rfl, ?_, (but_grow hb0 os).mono (fun j _ e => ⟨_, rfl, e⟩)⟩
      rw [← hdl]
      have hb1 := but_grow hb0 os
      refine holds_aat (holdsK_grow _ _ _ _ _ _ _ ?_ (holdsK_putRowK _ _ _ g 0 xs.toArray d' (holdsK_ahead _ _ _ _ _ _ _ hH) (by simp [hsz, hxl]))) (Nat.lt_of_lt_of_le hg hb1.size)
      exact Nat.lt_of_lt_of_le hg hb0.size
end Go.Proofs.YtchphfdoneckeaaDoor
