/-
  copyRedelivered: a new map that holds the same.
-/
import Derived.Test.YtchphfdoneckeaaDoorCp
import Derived.Test.YtchphfdoneckeaaDoorRm
import Derived.StillTailTactics
namespace Go.Proofs.YtchphfdoneckeaaDoor
open Go.RowKit
open Cs (Wt Kp Ag)

structure CrRel (w : World) (b n : Nat) (D : DataW Unit) (l : List Ag) (left : Lit → Bool) (cnt : Nat) (wr : World) : Prop where
  rg : wr.ranges Tryd.prog 25 NumE b (w.heap.size + 1) n D left cnt
  le : cnt ≤ Maps.size D
  out : ∃ D', RMap wr w.heap.size (Maps.size D - cnt) D' (comeA l left)
  src : RMap wr b n D l
  has : ∀ kl, left kl = true → Maps.has D kl = true
  bl : Below w.heap.size w wr

set_option maxRecDepth 100000 in
theorem copyRedelivered_any (m b n : Nat) (D : DataW Unit) (k : Kp) (ag : List Ag) (lk ack : Int) (pv : Value) (w : World) (hR : Row w m lk k pv (.map (some b)) ack) (hP : RMap w b n D ag) (hn : n ≤ 1000000) (hu : Cs.AUp ag) (hs : ∀ x ∈ ag, x.s < 18446744073709551616 ∧ x.n < 18446744073709551616) :
    Calls Tryd.prog 40 #[.pointer (some ⟨m, 0, none⟩)] w fun e w' => ∃ D', e = .returned (.map (some w.heap.size)) ∧ RMap w' w.heap.size n D' ag ∧ Below w.heap.size w w' := by
  have hmk := run_makeMap_hint80
  have c9 := hR.c9
  have c9' : (w.alloc (.map #[] 0)).cell? ⟨m, 9, none⟩ = some (.map (some b)) := (World.cell?_alloc_past _ _ _ hR.lt).trans c9
  have HP := Lib.hid hP
  have HU := Lib.hid (And.intro hu hs)
  have hsz := hP.own.size_le
  have HO := Lib.hid (hP.own.alloc (.map #[] 0))
  have e1 : (w.alloc (.map #[] 0)).heap.size = w.heap.size + 1 := by simp
  have hown := hP.own
  clear hP hR hu hs
  go_enter Tryd.func40, Tryd.ntmps40
  go_wp2_with (first
    | (at_len; refine wpList_len_own _ rfl _ 80 rfl 25 25 Tryd.underlying80 NumE b n D rfl hown ?_)
    | (at_range; refine wpList_range_own _ rfl _ 80 rfl 25 25 K25 Tryd.underlying80 NumE b n D rfl HO.out ?_; intro w0 hrg0 hg0 hs0)
    | go_in)
  go_frame
  rw [e1] at hrg0 hs0 ⊢
  have HC := Lib.hid c9
  clear c9 c9' hmk HO
  go_loopw [4, 5] (fun _ _ wr => ∃ (left : Lit → Bool) (cnt : Nat), Hid (CrRel w b n D ag left cnt wr)) (fun _ _ wr => wr.rangeLeft b (w.heap.size + 1))
  case atStart =>
    refine ⟨_, _, Lib.hid ⟨hrg0, Nat.le_refl _, ⟨.map [], ?_⟩, HP.out.move (((hown.alloc _)).kept hg0 (by simp)), fun _ h => h, ((Below.refl _ _).alloc (Nat.le_refl _) _).grown hg0 (by simp) (fun j hj => by cases hj)⟩⟩
    · rw [comeA_start (fun x hx => HP.out.has_of hx)]
      exact RMap.empty ((((World.ownsMap_made _ _ _ _).kept hg0 (by simp))).mono (Nat.zero_le _))
  case round =>
    obtain ⟨left, cnt, HREL⟩ := hrel
    go_wp2_with (first
      | (at_next; refine wpList_next_redel _ rfl _ rfl b (w.heap.size + 1) n D left cnt ag rfl HREL.out.src HREL.out.rg HREL.out.has ?_ ?_)
      | go_in)
    · intro hc0 hl0
      go_wp2_with fail
      go_ret
      obtain ⟨D', h'⟩ := HREL.out.out
      rw [comeA_end hl0] at h'
      exact ⟨D', rfl, h'.mono (by omega), HREL.out.bl⟩
    · intro x w1 cnt1 hx hlx hrg1 hlt hg1 hs1 hen
      obtain ⟨D', hout⟩ := HREL.out.out
      have hle := HREL.out.le
      have hltm : w.heap.size < w1.heap.size := by have := HREL.out.bl.size; have := hout.own.lt; omega
      have hout1 : w1.ownsMap Tryd.prog 25 NumE w.heap.size (Maps.size D - cnt) D' := hout.own.kept hg1 (by simp)
      obtain ⟨w2, hrun, hown2, hg2⟩ := hout1.update K25 Tryd.underlying80 (by unfold maxLen; omega) (key_of (HU.out.2 x hx).1) (numE (HU.out.2 x hx).2)
      have HG := Lib.hid (And.intro hx (And.intro hlx (And.intro hrg1 (And.intro hlt (And.intro hg1 (And.intro hout (And.intro hown2 hg2)))))))
      clear hx hlx hrg1 hlt hg1 hout hout1 hown2 hg2
      go_wp2_with fail
      obtain ⟨gx, glx, grg1, glt, gg1, gout, gown2, gg2⟩ := HG.out
      have hb := hown.lt
      have hbl := HREL.out.bl
      have hrg2 := grg1.kept (w' := w2) gg2 (fun e => by have := Option.some.inj e; omega) (fun e => by have := Option.some.inj e; omega)
      have hsrc := HREL.out.src.move ((HREL.out.src.own.kept gg1 (fun e => by have := Option.some.inj e; omega)).kept gg2 (fun e => by have := Option.some.inj e; omega))
      have hput := gout.put gown2 (comeA_step HU.out.1 gx glx) (comeA_new glx)
      have HF := Lib.hid (show CrRel w b n D ag (fun z => left z && !z.sameKey (key x.s)) cnt1 w2 from
        ⟨hrg2, by omega, ⟨_, hput.mono (by omega)⟩, hsrc, fun kl h => HREL.out.has kl (by simp at h; exact h.1),
         (hbl.grown gg1 hbl.size (fun j hj => by cases hj; omega)).grown gg2 (by omega) (fun j hj => by cases hj; exact Nat.le_refl _)⟩)
      have hm1 := hrg2.left_eq
      have hm0 := HREL.out.rg.left_eq
      clear hput hsrc gout gown2 gg2 gg1 hrg2 grg1
      exact ⟨⟨_, cnt1, HF⟩, by rw [hm1, hm0]; exact glt⟩
end Go.Proofs.YtchphfdoneckeaaDoor
