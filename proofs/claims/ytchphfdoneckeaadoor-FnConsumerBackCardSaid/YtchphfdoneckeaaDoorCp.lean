/-
  copyPending: a new map of new blocks, that holds the same.
-/
import Derived.Test.YtchphfdoneckeaaDoorPr
import Derived.StillTailTactics
namespace Go.Proofs.YtchphfdoneckeaaDoor
open Go.RowKit
open Cs (Wt Kp)

structure CpRel (w : World) (b n : Nat) (D : DataW Unit) (l : List Wt) (left : Lit → Bool) (cnt : Nat) (wr : World) : Prop where
  rg : wr.ranges Tryd.prog 25 PtrE b (w.heap.size + 1) n D left cnt
  le : cnt ≤ Maps.size D
  out : ∃ D', PMap wr w.heap.size (Maps.size D - cnt) D' (come l left)
  src : PMap wr b n D l
  has : ∀ kl, left kl = true → Maps.has D kl = true
  bl : Below w.heap.size w wr
theorem ranges_drew {w : World} {b r n cnt : Nat} {R : Value → Option (DataW Unit × List MemPlace)} {D : DataW Unit} {left : Lit → Bool} (h : w.ranges Tryd.prog 25 R b r n D left cnt) : w.drew.ranges Tryd.prog 25 R b r n D left cnt := h
theorem boxed_cell (w : World) (x y : Value) : (w.alloc (.cells #[x, y] 93)).heap[w.heap.size]? = some (.cells #[x, y] 93 (0, 0)) := K.heap_alloc_at _ _

set_option maxRecDepth 100000 in
theorem copyPending_any (m b n : Nat) (D : DataW Unit) (k : Kp) (lk ack : Int) (rv : Value) (w : World) (hR : Row w m lk k (.map (some b)) rv ack) (hP : PMap w b n D k.waits) (hn : n ≤ 1000000) (hu : Cs.Up k.waits) (hs : ∀ x ∈ k.waits, x.s < 18446744073709551616) :
    Calls Tryd.prog 39 #[.pointer (some ⟨m, 0, none⟩)] w fun e w' => ∃ D', e = .returned (.map (some w.heap.size)) ∧ PMap w' w.heap.size n D' k.waits ∧ Below w.heap.size w w' := by
  have hmk := run_makeMap_hint
  have c8 := hR.c8
  have c8' : (w.alloc (.map #[] 0)).cell? ⟨m, 8, none⟩ = some (.map (some b)) := (World.cell?_alloc_past _ _ _ hR.lt).trans c8
  have HP := Lib.hid hP
  have HU := Lib.hid (And.intro hu hs)
  have hsz := hP.own.size_le
  have HO := Lib.hid (hP.own.alloc (.map #[] 0))
  have e1 : (w.alloc (.map #[] 0)).heap.size = w.heap.size + 1 := by simp
  have hown := hP.own
  clear hP hR hu hs
  go_enter Tryd.func39, Tryd.ntmps39
  go_wp2_with (first
    | (at_len; refine wpList_len_own _ rfl _ 79 rfl 25 91 Tryd.underlying79 PtrE b n D rfl hown ?_)
    | (at_range; refine wpList_range_own _ rfl _ 79 rfl 25 91 K25 Tryd.underlying79 PtrE b n D rfl HO.out ?_; intro w0 hrg0 hg0 hs0)
    | go_in)
  go_frame
  rw [e1] at hrg0 hs0 ⊢
  have HC := Lib.hid c8
  clear c8 c8' hmk HO
  go_loopw [4, 5] (fun _ _ wr => ∃ (left : Lit → Bool) (cnt : Nat), Hid (CpRel w b n D k.waits left cnt wr)) (fun _ _ wr => wr.rangeLeft b (w.heap.size + 1))
  case atStart =>
    refine ⟨_, _, Lib.hid ⟨hrg0, Nat.le_refl _, ⟨.map [], ?_⟩, HP.out.move (((hown.alloc _)).kept hg0 (by simp)) fun p x hp => ?_, fun _ h => h, ((Below.refl _ _).alloc (Nat.le_refl _) _).grown hg0 (by simp) (fun j hj => by cases hj)⟩⟩
    · rw [come_start (fun x hx => HP.out.has_of hx)]
      exact PMap.empty ((((World.ownsMap_made _ _ _ _).kept hg0 (by simp))).mono (Nat.zero_le _))
    · exact pcell_grown hg0 (by simp) ((Below.heap_alloc _ _ _ (lt_of_heap hp)).trans hp)
  case round =>
    obtain ⟨left, cnt, HREL⟩ := hrel
    go_wp2_with (first
      | (at_next; refine wpList_next_pend _ rfl _ rfl b (w.heap.size + 1) n D left cnt k.waits rfl HREL.out.src HREL.out.rg HREL.out.has ?_ ?_)
      | go_in)
    · intro hc0 hl0
      go_wp2_with fail
      go_ret
      obtain ⟨D', h'⟩ := HREL.out.out
      rw [come_end hl0] at h'
      exact ⟨D', rfl, ⟨h'.own.mono (by omega), h'.at_, h'.only⟩, HREL.out.bl⟩
    · intro x p w1 cnt1 hx hpc hlx hrg1 hlt hg1 hs1 hen
      have hpc1 : PCell w1 p x := pcell_grown hg1 (fun q cs f e => by cases e; exact not93_iter HREL.out.rg cs f) hpc
      have k0 : w1.cell? ⟨p, 0, none⟩ = some (.int .u64 (x.c : Int)) := cell_of hpc1 rfl
      have k1 : w1.cell? ⟨p, 1, none⟩ = some (.int .i64 x.t) := cell_of hpc1 rfl
      obtain ⟨D', hout⟩ := HREL.out.out
      have hle := HREL.out.le
      have hltm : w.heap.size < w1.heap.size := by have := HREL.out.bl.size; have := hout.own.lt; omega
      have hout1 : w1.ownsMap Tryd.prog 25 PtrE w.heap.size (Maps.size D - cnt) D' := hout.own.kept hg1 (by simp)
      obtain ⟨w2, hrun, hown2, hg2⟩ := ((hout1.alloc (.cells #[.int .u64 (x.c : Int), .int .i64 x.t] 93)).drew).update K25 Tryd.underlying79 (by unfold maxLen; omega) (key_of (HU.out.2 x hx)) (val := .pointer (some ⟨wr.heap.size, 0, none⟩)) (d := .lit (.int .u64 (wr.heap.size : Int))) (ps := []) rfl
      have HG := Lib.hid (And.intro hx (And.intro hlx (And.intro hrg1 (And.intro hlt (And.intro hg1 (And.intro hpc1 (And.intro hout (And.intro hown2 hg2))))))))
      clear hx hlx hrg1 hlt hg1 hpc hpc1 hout hout1 hown2 hg2
      go_wp2_with fail
      go_region
      obtain ⟨gx, glx, grg1, glt, gg1, gpc1, gout, gown2, gg2⟩ := HG.out
      have hb := hown.lt
      have hbl := HREL.out.bl
      have hsz2 : (w1.alloc (.cells #[.int .u64 (x.c : Int), .int .i64 x.t] 93)).drew.heap.size = w1.heap.size + 1 := by simp
      have hmove : ∀ q y, PCell wr q y → PCell w2 q y := fun q y hq => by
        have h1 := pcell_grown gg1 (fun q cs f e => by cases e; exact not93_iter HREL.out.rg cs f) hq
        have h2 : PCell (w1.alloc (.cells #[.int .u64 (x.c : Int), .int .i64 x.t] 93)).drew q y := (Below.heap_alloc _ _ _ (lt_of_heap h1)).trans h1
        exact pcell_grown gg2 (fun q cs f e => by cases e; exact not93_map (((gout.own.kept gg1 (by simp)).alloc (.cells #[.int .u64 (x.c : Int), .int .i64 x.t] 93)).drew) cs f) h2
      have hrg2 := (ranges_drew (grg1.alloc (.cells #[.int .u64 (x.c : Int), .int .i64 x.t] 93))).kept (w' := w2) gg2 (fun e => by have := Option.some.inj e; omega) (fun e => by have := Option.some.inj e; omega)
      have hnew : PCell w2 wr.heap.size x := by
        refine (gg2.block _ (by rw [hsz2]; omega) (fun e => by have := Option.some.inj e; omega)).trans ?_
        rw [← hs1]
        exact boxed_cell w1 _ _
      have hsrc := HREL.out.src.move (((HREL.out.src.own.kept gg1 (fun e => by have := Option.some.inj e; omega)).alloc (.cells #[.int .u64 (x.c : Int), .int .i64 x.t] 93)).drew.kept gg2 (fun e => by have := Option.some.inj e; omega)) hmove
      have hput := gout.put gown2 hmove hnew (come_step HU.out.1 gx glx) (come_new glx)
      have HF := Lib.hid (show CpRel w b n D k.waits (fun z => left z && !z.sameKey (key x.s)) cnt1 w2 from
        ⟨hrg2, by omega, ⟨_, hput.own.mono (by omega), hput.at_, hput.only⟩, hsrc, fun kl h => HREL.out.has kl (by simp at h; exact h.1),
         ((Below.drew ((hbl.grown gg1 hbl.size (fun j hj => by cases hj; omega)).alloc (by omega) _)).grown gg2 (by rw [hsz2]; omega) (fun j hj => by cases hj; exact Nat.le_refl _))⟩)
      have hm1 := hrg2.left_eq
      have hm0 := HREL.out.rg.left_eq
      clear hput hsrc hnew hmove gout gown2 gg2 gg1 gpc1 hrg2 grg1
      go_roundw
      case rel => refine ⟨_, _, _, _, _, _, _, _, _, _, _, _, _, _, _, _, _, _, _, ⟨_, cnt1, HF⟩, rfl⟩
      case measure => rw [hm1, hm0]; exact glt
end Go.Proofs.YtchphfdoneckeaaDoor
