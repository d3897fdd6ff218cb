/-
  A slice of what waits, sorted.
-/
import Derived.Test.YtchphfdoneckeaaDoorSo
namespace Go.Proofs.YtchphfdoneckeaaDoor
open Go.RowKit Go.Sort Go.Lib
open Cs (Wt Kp)

/-- what waits lies in a slice that begins at A -/
def WAt (w : World) (A : Option Addr) (l : List Wt) : Prop := l ≠ [] → ∃ b o, A = some ⟨b, o, none⟩ ∧ b < w.heap.size ∧ ∀ i x, l[i]? = some x →
  w.cell? ⟨b, o + i * 3, none⟩ = some (.int .u64 (x.s : Int)) ∧ w.cell? ⟨b, o + i * 3 + 1, none⟩ = some (.int .u64 (x.c : Int)) ∧ w.cell? ⟨b, o + i * 3 + 2, none⟩ = some (.int .i64 x.t)
theorem flat_get (l : List Wt) : ∀ (i r : Nat), r < 3 → (l.flatMap encW)[i * 3 + r]? = (l[i]?).bind fun x => (encW x)[r]? := by
  induction l with
  | nil => intro i r _; simp
  | cons y l ih =>
    intro i r hr
    rw [List.flatMap_cons]
    cases i with
    | zero =>
      rw [List.getElem?_append_left (by simp [encW]; omega)]
      simp
    | succ i =>
      rw [List.getElem?_append_right (by simp [encW]; omega)]
      have : (i + 1) * 3 + r - (encW y).length = i * 3 + r := by simp [encW]; omega
      rw [this, ih i r hr]
      simp
theorem flat_length (l : List Wt) : (l.flatMap encW).length = l.length * 3 := by
  induction l with
  | nil => rfl
  | cons y l ih => rw [List.flatMap_cons, List.length_append, ih]; simp [encW]; omega
theorem wat_of_cells {w : World} {b : Nat} {l : List Wt} (hb : b < w.heap.size) (h : ∀ j u, (l.flatMap encW)[j]? = some u → w.cell? ⟨b, j, none⟩ = some u) : WAt w (some ⟨b, 0, none⟩) l := by
  intro _
  refine ⟨b, 0, rfl, hb, fun i x hx => ?_⟩
  have h0 := h (i * 3 + 0) _ ((flat_get l i 0 (by omega)).trans (by rw [hx]; rfl))
  have h1 := h (i * 3 + 1) _ ((flat_get l i 1 (by omega)).trans (by rw [hx]; rfl))
  have h2 := h (i * 3 + 2) _ ((flat_get l i 2 (by omega)).trans (by rw [hx]; rfl))
  simp only [Nat.zero_add]
  exact ⟨h0, h1, h2⟩
theorem own_cells {w : World} {base g n cap : Nat} {l : List Wt} (h : w.ownsRow base 47 3 (.slice (some ⟨g, 0, none⟩) n cap) n (l.flatMap encW)) : g < w.heap.size ∧ ∀ j u, (l.flatMap encW)[j]? = some u → w.cell? ⟨g, j, none⟩ = some u ∧ w.frozen? ⟨g, j, none⟩ = false := by
  rcases h.2 with ⟨h1, _⟩ | ⟨g', cap', cur, h1, h2, h3, h4, h5, h6, h7⟩
  · cases h1
  · cases h1
    refine ⟨lt_of_heap h3, fun j u hu => ⟨?_, thawed h3 j⟩⟩
    refine cell_of h3 ?_
    rw [← h7] at hu
    have := List.getElem?_take (l := cur.toList) (i := n * 3) (j := j)
    rw [this] at hu
    split at hu
    · simpa using hu
    · cases hu
theorem sorted_eq {d' : Array Wt} {l : List Wt} (hp : d'.toList.Perm l) (hs : SortedIn ltW 0 d'.size d') (hu : Cs.Up l) : d'.toList = l := by
  have h1 : d'.toList.Pairwise (fun a b => a.s ≤ b.s) := by
    rw [List.pairwise_iff_getElem]
    intro i j hi hj hij
    have := hs i j (Nat.zero_le _) hij (by simpa using hj)
    rw [getElem!_pos d' i (by simpa using hi), getElem!_pos d' j (by simpa using hj)] at this
    simp [ltW] at this
    simpa using this
  have h2 : l.Pairwise (fun a b => a.s ≤ b.s) := hu.imp (fun h => by omega)
  exact List.Perm.eq_of_pairwise (le := fun a b => a.s ≤ b.s) (fun a b ha hb h3 h4 => Cs.up_inj hu (hp.mem_iff.1 ha) hb (by omega)) h1 h2 hp

theorem but_grow {S : Nat → Prop} {a b : World} (h : But S a b) (os : Array Obj) : But S a (grow b os) := by
  refine ⟨h.os, h.tape, h.output, by have := h.size; simp; omega, fun k hk hs => ?_⟩
  have := h.size
  rw [show (grow b os).heap[k]? = b.heap[k]? by simp only [grow]; rw [Array.getElem?_append_left (by omega)]]
  exact h.block k hk hs
theorem but_put {w : World} {n blk off : Nat} {d : Array Wt} : But (fun j => j = blk) w (putRowK encW 3 (Sort.ahead w n) blk off d) := by
  refine ⟨rfl, rfl, rfl, by simp [putRowK, putRow, mapBlock], fun k hk hs => ?_⟩
  simp only [putRowK, putRow, mapBlock]
  simp [Array.getElem?_modify, Ne.symm hs]
theorem holds_own {w : World} {g : Nat} {l : List Wt} (h : ∀ j u, (l.flatMap encW)[j]? = some u → w.cell? ⟨g, j, none⟩ = some u ∧ w.frozen? ⟨g, j, none⟩ = false) : HoldsK encW 3 w g 0 l.toArray := by
  intro j hj
  rw [size_flatK] at hj
  have hj' : j < l.length * 3 := by simpa using hj
  obtain ⟨i, r, hr, rfl⟩ : ∃ i r, r < 3 ∧ j = i * 3 + r := ⟨j / 3, j % 3, Nat.mod_lt _ (by omega), by omega⟩
  have hi : i < l.length := by omega
  rw [get_flatK _ _ _ _ hj]
  have e1 : (i * 3 + r) / 3 = i := by omega
  have e2 : (i * 3 + r) % 3 = r := by omega
  rw [e1, e2]
  have hx : l.toArray[i]! = l[i] := by simp [hi]
  rw [hx]
  have hg := flat_get l i r hr
  rw [List.getElem?_eq_getElem hi] at hg
  simp only [Option.bind_some] at hg
  have hlen : r < (encW l[i]).length := by simp [encW]; omega
  rw [List.getElem?_eq_getElem hlen] at hg
  obtain ⟨h1, h2⟩ := h _ _ hg
  rw [Nat.zero_add]
  refine ⟨?_, h2⟩
  rw [h1]
  congr 1
  simp [hlen]
theorem holds_wat {w : World} {g : Nat} {d : Array Wt} (h : HoldsK encW 3 w g 0 d) (hg : g < w.heap.size) : WAt w (some ⟨g, 0, none⟩) d.toList := by
  intro _
  refine ⟨g, 0, rfl, hg, fun i x hx => ?_⟩
  have hi : i < d.size := by have := (List.getElem?_eq_some_iff.1 hx).1; simpa using this
  have hx' : d[i]! = x := by
    rw [Array.getElem?_toList, Array.getElem?_eq_getElem hi] at hx
    rw [getElem!_pos d i hi]
    exact Option.some.inj hx
  have h0 := (h.cell (i := i) (c := 0) hi (by omega)).1
  have h1 := (h.cell (i := i) (c := 1) hi (by omega)).1
  have h2 := (h.cell (i := i) (c := 2) hi (by omega)).1
  rw [hx'] at h0 h1 h2
  exact ⟨h0, h1, h2⟩

def SortPost (A : Option Addr) (l : List Wt) (w : World) (e : Ending) (w' : World) : Prop := e = .returned (.tuple #[]) ∧ WAt w' A l ∧ But (fun j => ∃ a, A = some a ∧ j = a.block) w w'
theorem sort_waits (base ob n cap : Nat) (A : Option Addr) (xs l : List Wt) (w : World) (hrow : w.ownsRow base 47 3 (.slice A n cap) n (xs.flatMap encW)) (hn : n ≤ 12) (hout : w.cell? ⟨ob, 4, none⟩ = some (.slice A n cap)) (hA : ∀ a, A = some a → a.block ≠ ob)
    (hp : xs.Perm l) (hu : Cs.Up l) : Calls Tryd.prog 31 #[.iface 28 (.slice A n cap), .func (.func 32) #[] #[.pointer (some ⟨ob, 0, none⟩)]] w (SortPost A l w) := by
  have hxl : xs.length = n := by have := hrow.1; rw [flat_length] at this; omega
  by_cases h1 : n ≤ 1
  · refine (sort_few A n cap h1 _ _ _ w).mono ?_
    rintro e w' ⟨rfl, os, rfl⟩
    have hb : But (fun j => ∃ a, A = some a ∧ j = a.block) w (grow w os) := but_grow (But.refl _ w) os
    refine ⟨rfl, ?_, hb⟩
    have hxl' : xs = l := by
      match xs, hxl with
      | [], _ => exact (List.nil_perm.1 hp).symm
      | [x], _ => exact List.singleton_perm.1 hp
      | _ :: _ :: _, h => simp at h; omega
    subst hxl'
    rcases hrow.2 with ⟨h3, h4⟩ | ⟨g, cap', cur, h3, _⟩
    · intro hne
      subst h4
      exact absurd (List.eq_nil_of_length_eq_zero hxl) hne
    · cases h3
      obtain ⟨hg, hc⟩ := own_cells hrow
      exact wat_of_cells (Nat.lt_of_lt_of_le hg hb.size) (fun j u hu => (cell?_grow w os _ hg).trans (hc j u hu).1)
  · rcases hrow.2 with ⟨h3, h4⟩ | ⟨g, cap', cur, h3, _⟩
    · omega
    · cases h3
      obtain ⟨hg, hc⟩ := own_cells hrow
      have hH := holds_own hc
      have hs := sort_rows g cap ob xs.toArray (by simp; omega) (by simp; omega) w hH hg (by simpa [hxl] using hout) (fun e => hA _ rfl e.symm)
      simp only [List.size_toArray, hxl] at hs
      refine hs.mono ?_
      rintro e w' ⟨rfl, d', m, os, hP, hS, rfl⟩
      have hb0 : But (fun j => j = g) w (putRowK encW 3 (Sort.ahead w m) g 0 d') := but_put
      have hsz : d'.size = n := by have := hP.1; simpa [hxl] using this
      have hpl : d'.toList.Perm l := by
        have h5 := hP.2.2
        have e1 : d'.extract 0 n = d' := by rw [← hsz]; simp
        have e2 : xs.toArray.extract 0 n = xs.toArray := by rw [← hxl]; simp
        rw [e1, e2] at h5
        exact h5.trans (by simpa using hp)
      have hSS : SortedIn ltW 0 d'.size d' := by rw [hsz]; exact hS
      have hdl := sorted_eq hpl hSS hu
      refine ⟨rfl, ?_, (but_grow hb0 os).mono (fun j _ e => ⟨_, rfl, e⟩)⟩
      rw [← hdl]
      have hb1 := but_grow hb0 os
      refine holds_wat (holdsK_grow _ _ _ _ _ _ _ ?_ (holdsK_putRowK _ _ _ g 0 xs.toArray d' (holdsK_ahead _ _ _ _ _ _ _ hH) (by simp [hsz, hxl]))) (Nat.lt_of_lt_of_le hg hb1.size)
      exact Nat.lt_of_lt_of_le hg hb0.size
end Go.Proofs.YtchphfdoneckeaaDoor
