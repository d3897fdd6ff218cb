/-
  impl.given: a name as the package has it.
-/
import Derived.Test.YtnjjhklefamaoaaDoorPart
namespace Go.Proofs.YtnjjhklefamaoaaDoor
open Go.RowKit
open Dn (Attr Name)
attribute [local go_sem ↓] Go.wp_at_zero Go.wp_at_succ

def GivenAt (w wr : World) (k : Nat) (l : Name) (v : Value) (ps : List Value) : Prop :=
  K.Grew w wr ∧ wr.heap[w.heap.size]? = some (.cells #[v] 44 (0, 0)) ∧ wr.ownsRow (w.heap.size + 1) 48 1 v k ps ∧ ∀ j, j < k → RBlk wr All (ps.getD j undef) (Dn.at' l j)
def rt (t : TypeId) : Prop := t = 47 ∨ t = 49 ∨ t = 50

theorem notrt {w : World} {base : Nat} {u : Value} {n : Nat} {ps : List Value} (h : w.ownsRow base 48 1 u n ps) : ∀ g, u.ownBlock = some g → All g → ∀ cs t fz, w.heap[g]? = some (.cells cs t fz) → ¬ rt t := by
  intro g hg _ cs t fz hb e
  obtain ⟨cur, hc⟩ := row_block h hg
  rw [hb] at hc
  rcases e with rfl | rfl | rfl <;> simp at hc

theorem given_step {w wr w2 w1 : World} {k gg cp : Nat} {v pv : Value} {ps : List Value} {l : Name} (h : GivenAt w wr k l v ps) (hb : Below wr.heap.size wr w2) (hR : RBlk w2 All pv (Dn.at' l k))
    (hown1 : w1.ownsRow (w.heap.size + 1) 48 1 (.slice (some ⟨gg, 0, none⟩) (k + 1) cp) (k + 1) (ps ++ [pv])) (hgrow : (w2.alloc (.cells #[pv] 48)).grownBy w1 v.ownBlock) :
    GivenAt w (w1.setCell ⟨w.heap.size, 0, none⟩ (.slice (some ⟨gg, 0, none⟩) (k + 1) cp)) (k + 1) l (.slice (some ⟨gg, 0, none⟩) (k + 1) cp) (ps ++ [pv]) := by
  obtain ⟨hG, hO, hown, hN⟩ := h
  have hGW : Below wr.heap.size wr (w2.alloc (.cells #[pv] 48)) := hb.alloc hb.size _
  have hlt : w.heap.size < wr.heap.size := (Array.getElem?_eq_some_iff.1 hO).1
  have hle := hGW.size
  have hownW : (w2.alloc (.cells #[pv] 48)).ownsRow (w.heap.size + 1) 48 1 v k ps := row_move hown fun g hg => ⟨(hown.lt g hg).1, hGW.block g (hown.lt g hg).2⟩
  have hrow : ∀ g, v.ownBlock = some g → w.heap.size + 1 ≤ g := fun g hg => (hown.lt g hg).1
  have hlen : ps.length = k := by simpa using hown.1
  have k0 : Keeps rt All All w2 (w2.alloc (.cells #[pv] 48)) := keeps_below ((Below.refl _ w2).alloc (Nat.le_refl _) _)
  have k1 : Keeps rt All All (w2.alloc (.cells #[pv] 48)) w1 := keeps_grown hgrow (notrt hownW)
  have hO1 : w1.heap[w.heap.size]? = some (.cells #[v] 44 (0, 0)) := by
    rw [hgrow.block _ (by omega) (fun e => by have := hrow _ e.symm; omega), hGW.block _ hlt]
    exact hO
  have k2 : Keeps rt All All w1 (w1.setCell ⟨w.heap.size, 0, none⟩ (.slice (some ⟨gg, 0, none⟩) (k + 1) cp)) := keeps_set fun _ cs t fz hb e => by
    rw [hO1] at hb
    rcases e with rfl | rfl | rfl <;> simp at hb
  have kk := (k0.trans k1).trans k2
  refine ⟨?_, ?_, ?_, ?_⟩
  · have h1 : Below w.heap.size w w1 := (Below.trans hG (hGW.mono (Nat.le_of_lt hlt))).grown hgrow (by omega) (fun g hg => by have := hrow g hg; omega)
    exact h1.setCell (Nat.le_refl _) _
  · exact K.heap_setCell_at hO1 _
  · refine row_move hown1 fun g hg => ⟨(hown1.lt g hg).1, ?_⟩
    exact Below.heap_setCell _ _ _ _ (fun e => by have := (hown1.lt g hg).1; simp at e; omega)
  · intro j hj
    rcases Nat.lt_or_ge j k with h1 | h1
    · rw [getD_app_lt (by omega)]
      exact ((hN j h1).keep (keeps_below (p := rt) hb) (.inl rfl) (.inr (.inl rfl)) (.inr (.inr rfl))).keep kk (.inl rfl) (.inr (.inl rfl)) (.inr (.inr rfl))
    · obtain rfl : j = k := by omega
      rw [show (ps ++ [pv]).getD j undef = pv from by rw [← hlen]; exact getD_app_eq]
      exact hR.keep kk (.inl rfl) (.inr (.inl rfl)) (.inr (.inr rfl))

theorem RBlk.ptr {w : World} {S : Nat → Prop} {v : Value} {l : List Attr} (h : RBlk w S v l) : ∃ b, v = .pointer (some ⟨b, 0, none⟩) := by
  obtain ⟨b, _, _, _, e, _⟩ := h
  exact ⟨b, e⟩

theorem own_on {wr w2 : World} {B : Nat} {e : TypeId} {v : Value} {k : Nat} {ps : List Value} (h : wr.ownsRow B e 1 v k ps) (hb : Below wr.heap.size wr w2) (o : Obj) : (w2.alloc o).ownsRow B e 1 v k ps :=
  row_move h fun g hg => ⟨(h.lt g hg).1, (Below.heap_alloc _ _ _ (Nat.lt_of_lt_of_le (h.lt g hg).2 hb.size)).trans (hb.block g (h.lt g hg).2)⟩

def GivenPost (l : Name) (w : World) (e : Ending) (w' : World) : Prop := ∃ v, e = .returned v ∧ PDn w' v l ∧ Below w.heap.size w w'

set_option maxHeartbeats 8000000 in
set_option maxRecDepth 100000 in
theorem given_any (v0 : Value) (l : Name) (w : World) (hV : NamesV w v0 l) (hl : l.length ≤ 6) (hF : Few l) : Calls Tryd.prog 23 #[v0] w (GivenPost l w) := by
  obtain ⟨A, n, cap, rfl, hnc, hc, hA⟩ := hV
  have hn6 : n ≤ 6 := by rw [← hA.1]; exact hl
  have HA := Lib.hid hA
  have HF := Lib.hid hF
  have HP0 := Lib.hid (show GivenAt w (w.alloc (.cells #[.slice none 0 0] 44)) 0 l (.slice none 0 0) [] from
    ⟨(Below.refl _ w).alloc (Nat.le_refl _) _, K.heap_alloc_at _ _, World.ownsRow_nil _ _ _ _, fun j hj => by omega⟩)
  clear hA hF hc hl
  obtain ⟨i0, hi, hz0, hz1, hz2⟩ := info_parts info48
  go_enter Tryd.func23, Tryd.ntmps23
  go_wp2_with fail
  go_loopw [4] (fun i wr => ∃ k : Nat, k ≤ n ∧ i = .int .i64 k ∧ ∃ v ps, Hid (GivenAt w wr k l v ps)) (fun i _ => n - (intOf i).toNat)
  case atStart => exact ⟨0, by omega, rfl, _, _, HP0⟩
  case round =>
    obtain ⟨k, hk, rfl, v, ps, HP⟩ := hrel
    have ho := HP.out.2.1
    have hO : w.heap.size < wr.heap.size := (Array.getElem?_eq_some_iff.1 ho).1
    have d0 : wr.cell? ⟨w.heap.size, 0, none⟩ = some v := by simp [World.cell?, ho]
    have fz : wr.frozen? ⟨w.heap.size, 0, none⟩ = false := by simp [World.frozen?, ho]
    have HB := Lib.hid HP.out.1
    have HW := Lib.hid HP.out.2.2.1
    clear ho
    by_cases hlt : k < n
    · obtain ⟨ab, ao, rfl, hab, hcs⟩ := HA.out.2 (by omega)
      obtain ⟨v1, c0', hv1⟩ := hcs k hlt
      have c0 := HB.out.cell c0'
      obtain ⟨A2, n2, cap2, rfl, _, _, ha2, _⟩ := hv1.below HB.out
      have hn2 : n2 ≤ 1000 := by have := ha2.1; have := (HF.out _ (at_mem (l := l) (k := k) (by rw [HA.out.1]; exact hlt))).2.1; omega
      have HCALL := Lib.hid (part_any A2 n2 cap2 (Dn.at' l k) wr.drew (ha2.below (Below.drew (Below.refl _ _))) hn2)
      have b0 : (0 : Int) ≤ (k : Int) := by omega
      have b1 : (k : Int) < (n : Int) := by omega
      have hne : v.ownBlock ≠ some w.heap.size := fun e => by have := (HW.out.lt _ e).1; omega
      clear hcs hv1 ha2 c0'
      go_wp2_with fail
      go_region_law
        ((first
          | (go_simp; go_at_call 40; ((with_reducible refine HCALL.out.mono ?_); rintro e w2 ⟨pv, rfl, hR, hb2'⟩)
             have hb2 : Below wr.heap.size wr w2 := ⟨hb2'.os, hb2'.tape, hb2'.output, hb2'.size, hb2'.block⟩
             have hO2 : w.heap.size < w2.heap.size := Nat.lt_of_lt_of_le hO hb2.size
             have x1 : w2.cell? ⟨w.heap.size, 0, none⟩ = some v := (hb2.cell (p := ⟨w.heap.size, 0, none⟩) hO).trans d0
             have x2 : w2.frozen? ⟨w.heap.size, 0, none⟩ = false := (hb2.frozen (p := ⟨w.heap.size, 0, none⟩) hO).trans fz
             have HR := Lib.hid hR
             have HB2 := Lib.hid hb2
             obtain ⟨pb, hpb⟩ := HR.out.ptr
             subst hpb
             clear hR hb2 hb2')
          | (refine step_append_lies _ (by rfl) _ _ _ (by rfl) (w.heap.size + 1) 48 i0 _ 1 8 u42 hi hz0 hz1 hz2 rfl (by omega) v k ps (by rfl) (own_on HW.out HB2.out _)
                ⟨w2.heap.size, 0, none⟩ 1 1 [.pointer (some ⟨pb, 0, none⟩)] (by rfl) (by rfl) (World.news_of_block (cs := #[.pointer (some ⟨pb, 0, none⟩)]) (t := 48) (fr := (0, 0)) (heap_alloc_new w2 _)) (by simp [Value.oneCell'])
                (by omega) (by unfold maxLen; omega) (by omega) (by simp; omega) (w2.heap.size + 1) (by simp) ?_; intro gg cp w1 hown1 hgrow hat hlt1
             have y1 : w1.cell? ⟨w.heap.size, 0, none⟩ = some v := (hgrow.cell_far _ (by simp; omega) (Ne.symm hne)).trans (by rw [World.cell?_alloc_past _ _ _ (by exact hO2)]; exact x1)
             have y2 : w1.frozen? ⟨w.heap.size, 0, none⟩ = false := (hgrow.frozen_far _ (by simp; omega) (Ne.symm hne)).trans (by rw [World.frozen?_alloc_past _ _ _ (by exact hO2)]; exact x2))))
      all_goals
        have HQ := Lib.hid (given_step HP.out HB2.out HR.out hown1 hgrow)
        clear hown1 hgrow hat hlt1 x1 x2 y1 y2
        go_wp2_with fail
        go_roundw
        case rel => exact ⟨k + 1, by omega, by go_num, _, _, HQ⟩
        case measure => simp [intOf]; omega
    · have HR := Lib.hid (show PDn wr (.pointer (some ⟨w.heap.size, 0, none⟩)) l from by
        have hl := HA.out.1
        have hkl : k = l.length := by omega
        obtain ⟨h1, h2, h3, h4⟩ := HP.out
        exact dn_read (S := All) h2 (hkl ▸ h3) (fun j hj => h4 j (by omega)) (by omega) (fun x hx => by have := (HF.out x hx).2.1; omega))
      go_wp2_with fail
      go_ret
      exact ⟨_, rfl, HR.out, HB.out⟩
end Go.Proofs.YtnjjhklefamaoaaDoor
