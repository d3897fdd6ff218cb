/-
  impl.part: a part of a name as the package has it.
-/
import Derived.Test.YtnjjhklefamaoaaDoorBlk
import Derived.Deep.RegionLaw
import Derived.Deep.AppendLies
import Derived.Deep.DrawnRows
namespace Go.Proofs.YtnjjhklefamaoaaDoor
open Go.RowKit
open Dn (Attr Name)
attribute [local go_sem ↓] Go.wp_at_zero Go.wp_at_succ


/-- what part's loop holds after k rounds: O is the part's own block -/
def PartAt (w wr : World) (k : Nat) (l : List Attr) (v : Value) (ps : List Value) : Prop :=
  K.Grew w wr ∧ wr.heap[w.heap.size]? = some (.cells #[v] 47 (0, 0)) ∧ wr.ownsRow (w.heap.size + 1) 50 1 v k ps ∧ ∀ j, j < k → ABlk wr All (ps.getD j undef) (atA l j)

theorem not49 {w : World} {base : Nat} {u : Value} {n : Nat} {ps : List Value} (h : w.ownsRow base 50 1 u n ps) : ∀ g, u.ownBlock = some g → All g → ∀ cs t fz, w.heap[g]? = some (.cells cs t fz) → ¬ t = 49 := by
  intro g hg _ cs t fz hb e
  obtain ⟨cur, hc⟩ := row_block h hg
  subst e
  rw [hb] at hc
  simp at hc

theorem part_step {w wr w1 : World} {k gg cp : Nat} {v : Value} {ps : List Value} {p q : ByteArray} {l : List Attr} (h : PartAt w wr k l v ps) (ha : atA l k = (p, q))
    (hown1 : w1.ownsRow (w.heap.size + 1) 50 1 (.slice (some ⟨gg, 0, none⟩) (k + 1) cp) (k + 1) (ps ++ [.pointer (some ⟨wr.heap.size, 0, none⟩)]))
    (hgrow : ((wr.alloc (.cells #[.string p, .string q] 49)).alloc (.cells #[.pointer (some ⟨wr.heap.size, 0, none⟩)] 50)).drew.grownBy w1 v.ownBlock) :
    PartAt w (w1.setCell ⟨w.heap.size, 0, none⟩ (.slice (some ⟨gg, 0, none⟩) (k + 1) cp)) (k + 1) l (.slice (some ⟨gg, 0, none⟩) (k + 1) cp) (ps ++ [.pointer (some ⟨wr.heap.size, 0, none⟩)]) := by
  obtain ⟨hG, hO, hown, hN⟩ := h
  generalize hW : ((wr.alloc (.cells #[.string p, .string q] 49)).alloc (.cells #[.pointer (some ⟨wr.heap.size, 0, none⟩)] 50)).drew = W at hgrow
  have hGW : Below wr.heap.size wr W := by subst hW; exact Below.drew (((Below.refl _ wr).alloc (Nat.le_refl _) _).alloc (by simp) _)
  have hnew : W.heap[wr.heap.size]? = some (.cells #[.string p, .string q] 49 (0, 0)) := by
    subst hW
    show ((wr.alloc (.cells #[.string p, .string q] 49)).alloc (.cells #[.pointer (some ⟨wr.heap.size, 0, none⟩)] 50)).heap[wr.heap.size]? = _
    rw [Below.heap_alloc _ _ _ (by simp)]
    exact K.heap_alloc_at _ _
  have hlt : w.heap.size < wr.heap.size := (Array.getElem?_eq_some_iff.1 hO).1
  have hle := hGW.size
  have hownW : W.ownsRow (w.heap.size + 1) 50 1 v k ps := row_move hown fun g hg => ⟨(hown.lt g hg).1, hGW.block g (hown.lt g hg).2⟩
  have hrow : ∀ g, v.ownBlock = some g → w.heap.size + 1 ≤ g := fun g hg => (hown.lt g hg).1
  have hlen : ps.length = k := by simpa using hown.1
  have k1 : Keeps (· = 49) All All W w1 := keeps_grown hgrow (not49 hownW)
  have hO1 : w1.heap[w.heap.size]? = some (.cells #[v] 47 (0, 0)) := by
    rw [hgrow.block _ (by omega) (fun e => by have := hrow _ e.symm; omega), hGW.block _ hlt]
    exact hO
  have k2 : Keeps (· = 49) All All w1 (w1.setCell ⟨w.heap.size, 0, none⟩ (.slice (some ⟨gg, 0, none⟩) (k + 1) cp)) := keeps_set fun _ cs t fz hb e => by
    subst e
    rw [hO1] at hb
    simp at hb
  refine ⟨?_, ?_, ?_, ?_⟩
  · have h1 : Below w.heap.size w w1 := (Below.trans hG (hGW.mono (Nat.le_of_lt hlt))).grown hgrow (by omega) (fun g hg => by have := hrow g hg; omega)
    exact h1.setCell (Nat.le_refl _) _
  · exact K.heap_setCell_at hO1 _
  · refine row_move hown1 fun g hg => ⟨(hown1.lt g hg).1, ?_⟩
    exact Below.heap_setCell _ _ _ _ (fun e => by have := (hown1.lt g hg).1; simp at e; omega)
  · intro j hj
    rcases Nat.lt_or_ge j k with h1 | h1
    · rw [getD_app_lt (by omega)]
      exact ((((hN j h1).keep (keeps_below (p := (· = 49)) hGW) rfl).keep k1 rfl).keep k2 rfl)
    · obtain rfl : j = k := by omega
      rw [show (ps ++ [Value.pointer (some ⟨wr.heap.size, 0, none⟩)]).getD j undef = .pointer (some ⟨wr.heap.size, 0, none⟩) from by rw [← hlen]; exact getD_app_eq, ha]
      have hA : ABlk W All (.pointer (some ⟨wr.heap.size, 0, none⟩)) (p, q) := ⟨_, trivial, rfl, hnew⟩
      exact (hA.keep k1 rfl).keep k2 rfl

def PartPost (l : List Attr) (w : World) (e : Ending) (w' : World) : Prop := ∃ v, e = .returned v ∧ RBlk w' All v l ∧ Below w.heap.size w w'

set_option maxHeartbeats 8000000 in
set_option maxRecDepth 100000 in
theorem part_any (A : Option Addr) (n cap : Nat) (l : List Attr) (w : World) (hA : AttrsAt w A n l) (hn : n ≤ 1000) :
    Calls Tryd.prog 40 #[.slice A n cap] w (PartPost l w) := by
  have HA := Lib.hid hA
  have HP0 := Lib.hid (show PartAt w (w.alloc (.cells #[.slice none 0 0] 47)) 0 l (.slice none 0 0) [] from
    ⟨(Below.refl _ w).alloc (Nat.le_refl _) _, K.heap_alloc_at _ _, World.ownsRow_nil _ _ _ _, fun j hj => by omega⟩)
  clear hA
  obtain ⟨i0, hi, hz0, hz1, hz2⟩ := info_parts info50
  go_enter Tryd.func40, Tryd.ntmps40
  go_wp2_with fail
  go_loopw [4] (fun i wr => ∃ k : Nat, k ≤ n ∧ i = .int .i64 k ∧ ∃ v ps, Hid (PartAt w wr k l v ps)) (fun i _ => n - (intOf i).toNat)
  case atStart => exact ⟨0, by omega, rfl, _, _, HP0⟩
  case round =>
    obtain ⟨k, hk, rfl, v, ps, HP⟩ := hrel
    have ho := HP.out.2.1
    have hO : w.heap.size < wr.heap.size := (Array.getElem?_eq_some_iff.1 ho).1
    have d0 : wr.cell? ⟨w.heap.size, 0, none⟩ = some v := by simp [World.cell?, ho]
    have fz : wr.frozen? ⟨w.heap.size, 0, none⟩ = false := by simp [World.frozen?, ho]
    have HB := Lib.hid HP.out.1
    have HW := Lib.hid HP.out.2.2.1
    clear ho
    by_cases hlt : k < n
    · obtain ⟨ab, ao, rfl, hab, hcs⟩ := HA.out.2 (by omega)
      have c0 := HB.out.cell (hcs k hlt).1
      have c1 := HB.out.cell (hcs k hlt).2
      have b0 : (0 : Int) ≤ (k : Int) := by omega
      have b1 : (k : Int) < (n : Int) := by omega
      have hne : v.ownBlock ≠ some w.heap.size := fun e => by have := (HW.out.lt _ e).1; omega
      obtain ⟨a, ha⟩ : ∃ a, atA l k = a := ⟨_, rfl⟩
      rw [ha] at c0 c1
      obtain ⟨p, q⟩ := a
      simp only at c0 c1
      have HAK := Lib.hid ha
      clear hcs ha
      have hnw : ((wr.alloc (.cells #[.string p, .string q] 49)).alloc (.cells #[.pointer (some ⟨wr.heap.size, 0, none⟩)] 50)).drew.heap[wr.heap.size + 1]? = some (.cells #[.pointer (some ⟨wr.heap.size, 0, none⟩)] 50 (0, 0)) := by
        have h := K.heap_alloc_at (wr.alloc (.cells #[.string p, .string q] 49)) (.cells #[.pointer (some ⟨wr.heap.size, 0, none⟩)] 50)
        have e : (wr.alloc (.cells #[.string p, .string q] 49)).heap.size = wr.heap.size + 1 := by simp
        rw [e] at h
        exact h
      have hf1 : ∀ o, (wr.alloc o).frozen? ⟨w.heap.size, 0, none⟩ = false := fun o => by rw [World.frozen?_alloc_past _ _ _ (by exact hO)]; exact fz
      have hf2 : ∀ o o', ((wr.alloc o).alloc o').frozen? ⟨w.heap.size, 0, none⟩ = false := fun o o' => by rw [World.frozen?_alloc_past _ _ _ (by simp; omega)]; exact hf1 o
      go_wp2_with fail
      go_region_law
        ((refine step_append_lies _ (by rfl) _ _ _ (by rfl) (w.heap.size + 1) 50 i0 _ 1 8 u45 hi hz0 hz1 hz2 rfl (by omega) v k ps (by rfl) (((HW.out.alloc _).alloc _).drew)
              ⟨wr.heap.size + 1, 0, none⟩ 1 1 [.pointer (some ⟨wr.heap.size, 0, none⟩)] (by rfl) (by rfl) (World.news_of_block (cs := #[.pointer (some ⟨wr.heap.size, 0, none⟩)]) (t := 50) (fr := (0, 0)) hnw) (by simp [Value.oneCell'])
              (by omega) (by unfold maxLen; omega) (by omega) (by simp; omega) (wr.heap.size + 2) (by simp) ?_; intro gg cp w1 hown1 hgrow hat hlt1
          have x1 : w1.cell? ⟨w.heap.size, 0, none⟩ = some v := (hgrow.cell_far _ (by simp; omega) (Ne.symm hne)).trans (by rw [World.cell?_drew, World.cell?_alloc_past _ _ _ (by simp; omega), World.cell?_alloc_past _ _ _ (by exact hO)]; exact d0)
          have x2 : w1.frozen? ⟨w.heap.size, 0, none⟩ = false := (hgrow.frozen_far _ (by simp; omega) (Ne.symm hne)).trans (by exact hf2 _ _)))
      all_goals
        have HQ := Lib.hid (part_step HP.out HAK.out hown1 hgrow)
        clear hown1 hgrow hat hlt1 x1 x2
        go_wp2_with fail
        go_roundw
        case rel => exact ⟨k + 1, by omega, by go_num, _, _, HQ⟩
        case measure => simp [intOf]; omega
    · have hk' : k = n := by omega
      have HR := Lib.hid (show RBlk wr All (.pointer (some ⟨w.heap.size, 0, none⟩)) l from by
        have hl := HA.out.1
        have hkl : k = l.length := by omega
        obtain ⟨h1, h2, h3, h4⟩ := HP.out
        exact ⟨_, v, ps, trivial, rfl, h2, ⟨row_move (hkl ▸ h3) fun g hg => ⟨Nat.zero_le _, rfl⟩, fun _ _ => trivial⟩, fun j hj => h4 j (by omega)⟩)
      go_wp2_with fail
      go_ret
      exact ⟨_, rfl, HR.out, HB.out⟩
end Go.Proofs.YtnjjhklefamaoaaDoor
