/-
  keep: a consumer's state as plain data, in order, where something was delivered again.
-/
import Derived.Test.YtchphfdoneckeaaDoorKe
import Derived.Test.YtchphfdoneckeaaDoorSa
namespace Go.Proofs.YtchphfdoneckeaaDoor
open Go.RowKit
open Cs (Wt Kp Ag)

def KeepBoth (k : Kp) (ag : List Ag) (w : World) (e : Ending) (w' : World) : Prop := ∃ A cap B capB, e = .returned (keepV k A cap (.slice B ag.length capB)) ∧ WAt w' A k.waits ∧ AAt w' B ag ∧ Below w.heap.size w w'
theorem AAt.but {S : Nat → Prop} {w w' : World} {A : Option Addr} {l : List Ag} (h : AAt w A l) (hb : But S w w') (hS : ∀ a, A = some a → ¬ S a.block) : AAt w' A l := by
  intro hl
  obtain ⟨b, o, h1, h2, h3⟩ := h hl
  have e : ∀ i, w'.cell? ⟨b, i, none⟩ = w.cell? ⟨b, i, none⟩ := fun i => by simp only [World.cell?, hb.block b h2 (hS _ h1)]
  exact ⟨b, o, h1, Nat.lt_of_lt_of_le h2 hb.size, fun i x hx => by rw [e, e]; exact h3 i x hx⟩
theorem info49 : ∃ i : TypeInfo, Tryd.prog.info? 49 = some i ∧ i.zero = some (.agg #[.int .u64 0, .int .u64 0]) ∧ i.size = 2 ∧ i.bytes = 16 := ⟨(Tryd.prog.info? 49).get (by kernel_rfl), by kernel_rfl, by kernel_rfl, by kernel_rfl, by kernel_rfl⟩
/-- the second loop: what was delivered again is laid out; W0 is the world ahead of it -/
structure KaRel (W0 : World) (ob it rb n : Nat) (E : DataW Unit) (k : Kp) (ag : List Ag) (A : Option Addr) (cap m : Nat) (left : Lit → Bool) (cnt : Nat) (B : Option Addr) (capB : Nat) (ys : List Ag) (wr : World) : Prop where
  rg : wr.ranges Tryd.prog 25 NumE rb it n E left cnt
  src : RMap wr rb n E ag
  has : ∀ kl, left kl = true → Maps.has E kl = true
  bt : But (fun j => j = ob) W0 wr
  out : OutAt wr ob k (.slice A m cap) (.slice B ys.length capB)
  own : wr.ownsRow (it + 1) 49 2 (.slice B ys.length capB) ys.length (ys.flatMap encA)
  perm : ys.Perm (comeA ag left)
/-- one more has come -/
theorem ka_step {W0 wr w1 w2 : World} {ob it rb n gg cp cnt cnt1 m : Nat} {E : DataW Unit} {k : Kp} {ag : List Ag} {left : Lit → Bool} {A : Option Addr} {cap : Nat} {B : Option Addr} {capB : Nat} {ys : List Ag} {x : Ag} (hu : Cs.AUp ag) (hrb : rb < W0.heap.size) (hob : ob < W0.heap.size) (hor : rb ≠ ob) (hit : it = W0.heap.size)
    (H : KaRel W0 ob it rb n E k ag A cap m left cnt B capB ys wr) (gx : x ∈ ag) (glx : left (key x.s) = true) (grg1 : w1.ranges Tryd.prog 25 NumE rb it n E (fun z => left z && !z.sameKey (key x.s)) cnt1)
    (gg1 : wr.grownBy w1 (some it)) (as1 : w1.heap.size = wr.heap.size)
    (hown2 : w2.ownsRow (it + 1) 49 2 (.slice (some ⟨gg, 0, none⟩) (ys.length + 1) cp) (ys.length + 1) (ys.flatMap encA ++ [.int .u64 (x.s : Int), .int .u64 (x.n : Int)]))
    (hgrow : (w1.alloc (.cells #[.int .u64 (x.s : Int), .int .u64 (x.n : Int)] 49)).grownBy w2 (Value.slice B ys.length capB).ownBlock) :
    KaRel W0 ob it rb n E k ag A cap m (fun z => left z && !z.sameKey (key x.s)) cnt1 (some ⟨gg, 0, none⟩) cp (ys ++ [x]) (w2.setCell ⟨ob, 5, none⟩ (.slice (some ⟨gg, 0, none⟩) (ys.length + 1) cp)) := by
  have hW := H.bt.size
  have hobl := lt_of_heap H.out
  have go1 : OutAt w1 ob k (.slice A m cap) (.slice B ys.length capB) := (gg1.block _ hobl (fun e => by have := Option.some.inj e; omega)).trans H.out
  have hsz : (w1.alloc (.cells #[.int .u64 (x.s : Int), .int .u64 (x.n : Int)] 49)).heap.size = w1.heap.size + 1 := by simp
  have ao2 : OutAt (w1.alloc (.cells #[.int .u64 (x.s : Int), .int .u64 (x.n : Int)] 49)) ob k (.slice A m cap) (.slice B ys.length capB) := (Below.heap_alloc _ _ _ (by omega)).trans go1
  have hnb : ∀ g, (Value.slice B ys.length capB).ownBlock = some g → it + 1 ≤ g ∧ g < wr.heap.size := fun g hg => ⟨(own_blk H.own hg).1, own_lt H.own hg⟩
  have hrg2 := (grg1.alloc (.cells #[.int .u64 (x.s : Int), .int .u64 (x.n : Int)] 49)).kept (w' := w2) hgrow (fun e => by have := (hnb _ e.symm).1; omega) (fun e => by have := (hnb _ e.symm).1; omega)
  have hsrc := H.src.move (((H.src.own.kept gg1 (fun e => by have := Option.some.inj e; omega)).alloc (.cells #[.int .u64 (x.s : Int), .int .u64 (x.n : Int)] 49)).kept hgrow (fun e => by have := (hnb _ e.symm).1; omega))
  have hperm := permA_step hu H.perm gx glx
  have hout2 : OutAt w2 ob k (.slice A m cap) (.slice B ys.length capB) := (hgrow.block _ (by omega) (fun e => by have := (hnb _ e.symm).1; omega)).trans ao2
  have hb3 : But (fun j => j = ob) w2 (w2.setCell ⟨ob, 5, none⟩ (.slice (some ⟨gg, 0, none⟩) (ys.length + 1) cp)) := (But.refl _ w2).setCell _ _ (fun _ => rfl)
  have hb2 : But (fun j => j = ob) W0 w2 := ((H.bt.grown gg1 (fun j hj h => by have := Option.some.inj hj; omega)).alloc _).grown hgrow (fun j hj h => by have := (hnb _ hj).1; omega)
  have hgr3 : w2.grownBy (w2.setCell ⟨ob, 5, none⟩ (.slice (some ⟨gg, 0, none⟩) (ys.length + 1) cp)) (some ob) := hb3.grownBy (fun j hj => by rw [hj])
  exact {
    rg := hrg2.kept hgr3 (fun e => hor (Option.some.inj e)) (fun e => by have := Option.some.inj e; omega)
    src := hsrc.but hb3 hor
    has := fun kl h => H.has kl (by simp at h; exact h.1)
    bt := hb2.trans hb3
    out := by rw [List.length_append]; exact K.heap_setCell_at hout2 _
    own := by
      rw [List.length_append, List.flatMap_append]
      refine own_move hown2 fun g hg => hb3.block g (own_lt hown2 hg) (fun e => ?_)
      have := (own_blk hown2 hg).1
      omega
    perm := hperm }
theorem kb_fin {w w3 w4 : World} (k : Kp) (ag : List Ag) (A B : Option Addr) (cap m capB mb : Nat) (hm : m = k.waits.length) (hmb : mb = ag.length) (hW : WAt w3 A k.waits) (hB : Below w.heap.size w w3) (hb : But (fun j => ∃ a, B = some a ∧ j = a.block) w3 w4) (hAg : AAt w4 B ag)
    (hR : w4.heap[w.heap.size]? = some (.cells #[.int .u64 0, .int .u64 0, .int .u64 0, .int .u64 0, .slice none 0 0, .slice none 0 0] 31 (0, 0))) (hA : ∀ a, A = some a → w.heap.size + 1 ≤ a.block ∧ ∀ b, B = some b → a.block ≠ b.block) (hBb : ∀ a, B = some a → w.heap.size + 1 ≤ a.block) :
    ((((((w4.setCell ⟨w.heap.size, 0, none⟩ (.int .u64 (k.dc : Int))).setCell ⟨w.heap.size, 1, none⟩ (.int .u64 (k.ds : Int))).setCell ⟨w.heap.size, 2, none⟩ (.int .u64 (k.fc : Int))).setCell ⟨w.heap.size, 3, none⟩ (.int .u64 (k.fs : Int))).setCell ⟨w.heap.size, 4, none⟩ (.slice A m cap)).setCell ⟨w.heap.size, 5, none⟩ (.slice B mb capB)).heap[w.heap.size]? =
      some (.cells #[.int .u64 (k.dc : Int), .int .u64 (k.ds : Int), .int .u64 (k.fc : Int), .int .u64 (k.fs : Int), .slice A m cap, .slice B mb capB] 31 (0, 0)) ∧
    KeepBoth k ag w (.returned (.agg #[.int .u64 (k.dc : Int), .int .u64 (k.ds : Int), .int .u64 (k.fc : Int), .int .u64 (k.fs : Int), .slice A m cap, .slice B mb capB]))
      ((((((w4.setCell ⟨w.heap.size, 0, none⟩ (.int .u64 (k.dc : Int))).setCell ⟨w.heap.size, 1, none⟩ (.int .u64 (k.ds : Int))).setCell ⟨w.heap.size, 2, none⟩ (.int .u64 (k.fc : Int))).setCell ⟨w.heap.size, 3, none⟩ (.int .u64 (k.fs : Int))).setCell ⟨w.heap.size, 4, none⟩ (.slice A m cap)).setCell ⟨w.heap.size, 5, none⟩ (.slice B mb capB)) := by
  have hb5 : But (fun j => j = w.heap.size) w4 ((((((w4.setCell ⟨w.heap.size, 0, none⟩ (.int .u64 (k.dc : Int))).setCell ⟨w.heap.size, 1, none⟩ (.int .u64 (k.ds : Int))).setCell ⟨w.heap.size, 2, none⟩ (.int .u64 (k.fc : Int))).setCell ⟨w.heap.size, 3, none⟩ (.int .u64 (k.fs : Int))).setCell ⟨w.heap.size, 4, none⟩ (.slice A m cap)).setCell ⟨w.heap.size, 5, none⟩ (.slice B mb capB)) :=
    ((((((But.refl (fun j => j = w.heap.size) w4).setCell _ _ (fun _ => rfl)).setCell _ _ (fun _ => rfl)).setCell _ _ (fun _ => rfl)).setCell _ _ (fun _ => rfl)).setCell _ _ (fun _ => rfl)).setCell _ _ (fun _ => rfl)
  refine ⟨K.heap_setCell_at (K.heap_setCell_at (K.heap_setCell_at (K.heap_setCell_at (K.heap_setCell_at (K.heap_setCell_at hR _) _) _) _) _) _, A, cap, B, capB, by unfold keepV; rw [hm, hmb], (hW.but hb (fun a ha ⟨b, hb', e⟩ => (hA a ha).2 b hb' e)).but hb5 (fun a ha e => by have := (hA a ha).1; omega), hAg.but hb5 (fun a ha e => by have := hBb a ha; omega), ?_⟩
  exact But.below (But.below hB hb (fun j ⟨a, ha, e⟩ => by have := hBb a ha; omega) hB.size) hb5 (fun j e => by omega) (by have := hB.size; have := hb.size; omega)
set_option maxHeartbeats 2000000 in
set_option maxRecDepth 100000 in
theorem keep_both (sb b rb n : Nat) (D E : DataW Unit) (k : Kp) (ag : List Ag) (w : World) (hK : KeptAt w sb k (.map (some b)) (.map (some rb))) (hP : PMap w b n D k.waits) (hQ : RMap w rb n E ag) (hF : Fits k) (hl : k.waits.length ≤ 12) (hu : Cs.AUp ag) (hla : ag.length ≤ 12) :
    Calls Tryd.prog 19 #[.pointer (some ⟨sb, 0, none⟩)] w (KeepBoth k ag w) := by
  have HK := Lib.hid hK
  have HP := Lib.hid hP
  have HF := Lib.hid hF
  have HQ := Lib.hid (And.intro hQ (And.intro hu hla))
  clear hK hP hF hQ hu hla
  go_enter Tryd.func19, Tryd.ntmps19
  go_wp2_with fail
  have hbW : Below w.heap.size w (w.alloc (.cells #[.int .u64 0, .int .u64 0, .int .u64 0, .int .u64 0, .slice none 0 0, .slice none 0 0] 31)) := (Below.refl _ _).alloc (Nat.le_refl _) _
  have hRb : (w.alloc (.cells #[.int .u64 0, .int .u64 0, .int .u64 0, .int .u64 0, .slice none 0 0, .slice none 0 0] 31)).heap[w.heap.size]? = some (.cells #[.int .u64 0, .int .u64 0, .int .u64 0, .int .u64 0, .slice none 0 0, .slice none 0 0] 31 (0, 0)) := K.heap_alloc_at _ _
  have hsW : (w.alloc (.cells #[.int .u64 0, .int .u64 0, .int .u64 0, .int .u64 0, .slice none 0 0, .slice none 0 0] 31)).heap.size = w.heap.size + 1 := by simp
  generalize w.alloc (.cells #[.int .u64 0, .int .u64 0, .int .u64 0, .int .u64 0, .slice none 0 0, .slice none 0 0] 31) = W at hbW hRb hsW ⊢
  have hKW : KeptAt W sb k (.map (some b)) (.map (some rb)) := (hbW.block _ (lt_of_heap HK.out)).trans HK.out
  have hPW : PMap W b n D k.waits := HP.out.but (S := fun _ => False) (But.of hbW) (fun h => h) (fun _ _ _ h => h.elim)
  have HW := Lib.hid (And.intro hbW (And.intro hRb (And.intro hKW (And.intro hPW hsW))))
  have c0 := hKW.c0
  have c1 := hKW.c1
  have c2 := hKW.c2
  have c3 := hKW.c3
  have d0 := past hKW.c0
  have d1 := past hKW.c1
  have d2 := past hKW.c2
  have d3 := past hKW.c3
  clear hbW hRb hKW hPW hsW
  go_region
  have hV : OutAt (W.alloc (.cells #[.int .u64 (k.dc : Int), .int .u64 (k.ds : Int), .int .u64 (k.fc : Int), .int .u64 (k.fs : Int), .slice none 0 0, .slice none 0 0] 31)).drew W.heap.size k (.slice none 0 0) (.slice none 0 0) := K.heap_alloc_at _ _
  have hbV : Below W.heap.size W (W.alloc (.cells #[.int .u64 (k.dc : Int), .int .u64 (k.ds : Int), .int .u64 (k.fc : Int), .int .u64 (k.fs : Int), .slice none 0 0, .slice none 0 0] 31)).drew := Below.drew ((Below.refl _ _).alloc (Nat.le_refl _) _)
  have hsV : (W.alloc (.cells #[.int .u64 (k.dc : Int), .int .u64 (k.ds : Int), .int .u64 (k.fc : Int), .int .u64 (k.fs : Int), .slice none 0 0, .slice none 0 0] 31)).drew.heap.size = w.heap.size + 2 := by
    have := HW.out.2.2.2.2
    simp; omega
  generalize (W.alloc (.cells #[.int .u64 (k.dc : Int), .int .u64 (k.ds : Int), .int .u64 (k.fc : Int), .int .u64 (k.fs : Int), .slice none 0 0, .slice none 0 0] 31)).drew = V at hV hbV hsV ⊢
  have hKV : KeptAt V sb k (.map (some b)) (.map (some rb)) := (hbV.block _ (lt_of_heap HW.out.2.2.1)).trans HW.out.2.2.1
  have hPV : PMap V b n D k.waits := HW.out.2.2.2.1.but (S := fun _ => False) (But.of hbV) (fun h => h) (fun _ _ _ h => h.elim)
  have hRV : V.heap[w.heap.size]? = some (.cells #[.int .u64 0, .int .u64 0, .int .u64 0, .int .u64 0, .slice none 0 0, .slice none 0 0] 31 (0, 0)) := (hbV.block _ (lt_of_heap HW.out.2.1)).trans HW.out.2.1
  have hbwV : Below w.heap.size w V := HW.out.1.trans (hbV.mono (by rw [HW.out.2.2.2.2]; omega))
  rw [HW.out.2.2.2.2] at hV ⊢
  have HV := Lib.hid (And.intro hV (And.intro hKV (And.intro hPV (And.intro hRV hbwV))))
  have hown := hPV.own
  have c4 := hKV.c4
  clear hV hbV hKV hPV hRV hbwV c0 c1 c2 c3 d0 d1 d2 d3
  go_wp2_with (first | (at_range; refine wpList_range_own _ rfl _ 79 rfl 25 91 K25 Tryd.underlying79 PtrE b n D rfl hown ?_; intro w0 hrg0 hg0 hs0) | go_in)
  go_frame
  have hit : (⟨V.heap.size, 0, none⟩ : Addr) = ⟨w.heap.size + 2, 0, none⟩ := by rw [hsV]
  rw [hit]
  rw [hsV] at hrg0 hs0
  obtain ⟨i0, hi0, hz0, hz1, hz2⟩ := info47
  have HI := Lib.hid (And.intro hi0 (And.intro hz0 (And.intro hz1 hz2)))
  have HG0 := Lib.hid (And.intro hrg0 (And.intro hg0 hs0))
  clear hit hrg0 hg0 hs0 hsV hi0 hz0 hz1 hz2 hown c4
  go_loopw [4, 5] (fun _ _ wr => ∃ (left : Lit → Bool) (cnt : Nat) (A : Option Addr) (cap : Nat) (xs : List Wt), Hid (KeRel w sb (w.heap.size + 1) (w.heap.size + 2) b n D k left cnt A cap xs wr)) (fun _ _ wr => wr.rangeLeft b (w.heap.size + 2))
  case atStart =>
    obtain ⟨hV, hKV, hPV, hRV, hbwV⟩ := HV.out
    obtain ⟨hrg0, hg0, hs0⟩ := HG0.out
    have hb0 : But (fun _ => False) V w0 := (But.refl _ V).grown hg0 (fun _ h => by cases h)
    refine ⟨_, _, none, 0, [], Lib.hid ⟨hrg0, hPV.but hb0 (fun h => h) (fun _ _ _ h => h.elim), fun _ h => h, hbwV.grown hg0 hbwV.size (fun j hj => by cases hj), (hb0.block _ (lt_of_heap hV) (fun h => h)).trans hV, World.ownsRow_nil _ _ _ _, ?_, (hb0.block _ (lt_of_heap hRV) (fun h => h)).trans hRV, rfl, rfl⟩⟩
    rw [come_start (fun x hx => hPV.has_of hx)]
  case round =>
    obtain ⟨left, cnt, A, cap, xs, HREL⟩ := hrel
    go_wp2_with (first
      | (at_next; refine wpList_next_pend _ rfl _ rfl b (w.heap.size + 2) n D left cnt k.waits rfl HREL.out.src HREL.out.rg HREL.out.has ?_ ?_)
      | go_in)
    · intro hc0 hl0
      have hperm := HREL.out.perm
      rw [come_end hl0] at hperm
      have hKr : KeptAt wr sb k (.map (some b)) (.map (some rb)) := (HREL.out.bl.block _ (lt_of_heap HK.out)).trans HK.out
      have c5 := hKr.c5
      have HPM := Lib.hid hperm
      have hQr : RMap wr rb n E ag := HQ.out.1.but (S := fun _ => False) ⟨HREL.out.bl.os, HREL.out.bl.tape, HREL.out.bl.output, HREL.out.bl.size, fun j hj _ => HREL.out.bl.block j hj⟩ (fun h => h)
      have hownR := hQr.own
      have HQR := Lib.hid hQr
      have hobl := lt_of_heap HREL.out.out
      have hlen : xs.length ≤ 12 := by have := hperm.length_eq; omega
      clear hperm hKr hc0 hQr
      obtain ⟨i49, ji, jz, js, jb⟩ := info49
      have HJ := Lib.hid (And.intro ji (And.intro jz (And.intro js jb)))
      clear ji jz js jb
      go_wp2_with (first | (at_range; refine wpList_range_own _ rfl _ 80 rfl 25 25 K25 Tryd.underlying80 NumE rb n E rfl hownR ?_; intro wk hrgk hgk hsk) | go_in)
      go_frame
      have HGK := Lib.hid (And.intro hrgk (And.intro hgk hsk))
      clear hrgk hgk hsk hownR c5
      generalize hIT : wr.heap.size = it at HGK hobl ⊢
      have HIT := Lib.hid hIT
      clear hIT
      generalize wr = W0 at HREL HPM HQR HGK HIT ⊢
      go_loopw [6, 7] (fun _ _ wr => ∃ (left : Lit → Bool) (cnt : Nat) (B : Option Addr) (capB : Nat) (ys : List Ag), Hid (KaRel W0 (w.heap.size + 1) it rb n E k ag A cap xs.length left cnt B capB ys wr)) (fun _ _ wr => wr.rangeLeft rb it)
      case atStart =>
        obtain ⟨hrgk, hgk, hsk⟩ := HGK.out
        have hbk : But (fun _ => False) W0 wk := (But.refl _ W0).grown hgk (fun _ h => by cases h)
        refine ⟨_, _, none, 0, [], Lib.hid ⟨hrgk, HQR.out.but hbk (fun h => h), fun _ h => h, hbk.mono (fun _ _ h => h.elim), (hbk.block _ (by have := HIT.out; omega) (fun h => h)).trans HREL.out.out, World.ownsRow_nil _ _ _ _, ?_⟩⟩
        rw [comeA_start (fun x hx => HQR.out.has_of hx)]
      case round =>
        obtain ⟨leftA, cntA, B, capB, ys, HKA⟩ := hrel
        go_wp2_with (first
          | (at_next; refine wpList_next_redel _ rfl _ rfl rb it n E leftA cntA ag rfl HKA.out.src HKA.out.rg HKA.out.has ?_ ?_)
          | go_in)
        · intro hc0 hlA0
          have hpermA := HKA.out.perm
          rw [comeA_end hlA0] at hpermA
          have HPA := Lib.hid hpermA
          clear hpermA hc0
          have hKA := HKA.out
          have hlA : ys.length ≤ 12 := by have := HPA.out.length_eq; have := HQ.out.2.2; omega
          have hlW : xs.length ≤ 12 := by have := HPM.out.length_eq; omega
          have hobW := lt_of_heap HREL.out.out
          have hAb : ∀ g, (Value.slice A xs.length cap).ownBlock = some g → w.heap.size + 3 ≤ g ∧ g < W0.heap.size := fun g hg => ⟨by have := (own_blk HREL.out.own hg).1; omega, own_lt HREL.out.own hg⟩
          have hBb : ∀ g, (Value.slice B ys.length capB).ownBlock = some g → it + 1 ≤ g := fun g hg => (own_blk hKA.own hg).1
          have hITs := HIT.out
          have hAg : ∀ j, (∃ a, A = some a ∧ j = a.block) → w.heap.size + 3 ≤ j ∧ j < W0.heap.size := fun j ⟨a, ha, hj⟩ => by rw [hj]; exact hAb a.block (by rw [ha]; rfl)
          have hBg : ∀ a, B = some a → it + 1 ≤ a.block := fun a ha => hBb a.block (by rw [ha]; rfl)
          have HAB := Lib.hid (And.intro hAb (And.intro hBb (And.intro hAg (And.intro hBg (And.intro hITs hobW)))))
          have hown47 : wr.ownsRow (w.heap.size + 2 + 1) 47 3 (.slice A xs.length cap) xs.length (xs.flatMap encW) := own_move HREL.out.own fun g hg => hKA.bt.block g (hAb g hg).2 (fun e => by have := (hAb g hg).1; omega)
          have o4 : wr.cell? ⟨w.heap.size + 1, 4, none⟩ = some (.slice A xs.length cap) := cell_of hKA.out rfl
          have hS := sort_waits (w.heap.size + 2 + 1) (w.heap.size + 1) xs.length cap A xs k.waits wr hown47 hlW o4 (fun a ha e => by have := (hAg a.block ⟨a, ha, rfl⟩).1; omega) HPM.out HF.out.up
          clear hKA hAb hBb hAg hBg hITs hobW hown47 hlW
          go_wp2_with fail
          refine hS.mono ?_
          rintro e w3 ⟨rfl, hW3, hb3⟩
          have hO3 : OutAt w3 (w.heap.size + 1) k (.slice A xs.length cap) (.slice B ys.length capB) := (hb3.block _ (lt_of_heap HKA.out.out) (fun h => by have := (HAB.out.2.2.1 _ h).1; omega)).trans HKA.out.out
          have hRr := (HKA.out.bt.block _ (lt_of_heap HREL.out.res) (by omega)).trans HREL.out.res
          have hR3 := (hb3.block _ (lt_of_heap hRr) (fun h => by have := (HAB.out.2.2.1 _ h).1; omega)).trans hRr
          have hB2 : Below w.heap.size w wr := But.below HREL.out.bl HKA.out.bt (fun j e => by omega) HREL.out.bl.size
          have hB3 : Below w.heap.size w w3 := But.below hB2 hb3 (fun j h => by have := (HAB.out.2.2.1 _ h).1; omega) hB2.size
          have hown49 : w3.ownsRow (it + 1) 49 2 (.slice B ys.length capB) ys.length (ys.flatMap encA) := own_move HKA.out.own fun g hg => hb3.block g (own_lt HKA.out.own hg) (fun h => by have := (HAB.out.2.2.1 _ h).2; have := HAB.out.2.1 g hg; have := HAB.out.2.2.2.2.1; omega)
          have o5 : w3.cell? ⟨w.heap.size + 1, 5, none⟩ = some (.slice B ys.length capB) := cell_of hO3 rfl
          have hS2 := sort_again (it + 1) (w.heap.size + 1) ys.length capB B ys ag w3 hown49 hlA o5 (fun a ha e => by have := HAB.out.2.2.2.1 a ha; have := HAB.out.2.2.2.2.1; have := HAB.out.2.2.2.2.2; omega) HPA.out HQ.out.2.1
          have H3 := Lib.hid (And.intro hO3 (And.intro hR3 (And.intro hB3 hW3)))
          clear hO3 hRr hR3 hB2 hB3 hown49 hW3 hb3 hS o4 hlA
          go_wp2_with fail
          refine hS2.mono ?_
          rintro e w4 ⟨rfl, hA4, hb4⟩
          have hBs : ∀ j, (∃ a, B = some a ∧ j = a.block) → w.heap.size + 2 < j := fun j ⟨a, ha, hj⟩ => by rw [hj]; have := HAB.out.2.2.2.1 a ha; have := HAB.out.2.2.2.2.1; have := HAB.out.2.2.2.2.2; omega
          have hO4 : OutAt w4 (w.heap.size + 1) k (.slice A xs.length cap) (.slice B ys.length capB) := (hb4.block _ (lt_of_heap H3.out.1) (fun h => by have := hBs _ h; omega)).trans H3.out.1
          have hR4 := (hb4.block _ (lt_of_heap H3.out.2.1) (fun h => by have := hBs _ h; omega)).trans H3.out.2.1
          have q0 : w4.cell? ⟨w.heap.size + 1, 0, none⟩ = some (.int .u64 (k.dc : Int)) := cell_of hO4 rfl
          have q1 : w4.cell? ⟨w.heap.size + 1, 1, none⟩ = some (.int .u64 (k.ds : Int)) := cell_of hO4 rfl
          have q2 : w4.cell? ⟨w.heap.size + 1, 2, none⟩ = some (.int .u64 (k.fc : Int)) := cell_of hO4 rfl
          have q3 : w4.cell? ⟨w.heap.size + 1, 3, none⟩ = some (.int .u64 (k.fs : Int)) := cell_of hO4 rfl
          have q4 : w4.cell? ⟨w.heap.size + 1, 4, none⟩ = some (.slice A xs.length cap) := cell_of hO4 rfl
          have q5 : w4.cell? ⟨w.heap.size + 1, 5, none⟩ = some (.slice B ys.length capB) := cell_of hO4 rfl
          have r0 : w4.cell? ⟨w.heap.size, 0, none⟩ = some (.int .u64 0) := cell_of hR4 rfl
          have r1 : w4.cell? ⟨w.heap.size, 1, none⟩ = some (.int .u64 0) := cell_of hR4 rfl
          have r2 : w4.cell? ⟨w.heap.size, 2, none⟩ = some (.int .u64 0) := cell_of hR4 rfl
          have r3 : w4.cell? ⟨w.heap.size, 3, none⟩ = some (.int .u64 0) := cell_of hR4 rfl
          have r4 : w4.cell? ⟨w.heap.size, 4, none⟩ = some (.slice none 0 0) := cell_of hR4 rfl
          have r5 : w4.cell? ⟨w.heap.size, 5, none⟩ = some (.slice none 0 0) := cell_of hR4 rfl
          have f0 := thawed hR4 0
          have f1 := thawed hR4 1
          have f2 := thawed hR4 2
          have f3 := thawed hR4 3
          have f4 := thawed hR4 4
          have f5 := thawed hR4 5
          have H4 := Lib.hid (And.intro hR4 (And.intro hb4 hA4))
          clear hO4 hR4 hb4 hA4 hBs hS2 o5
          go_wp2_with fail
          have hx := kb_fin k ag A B cap xs.length capB ys.length HPM.out.length_eq HPA.out.length_eq H3.out.2.2.2 H3.out.2.2.1 H4.out.2.1 H4.out.2.2 H4.out.1 (fun a ha => ⟨by have := (HAB.out.2.2.1 a.block ⟨a, ha, rfl⟩).1; omega, fun b hb e => by have := (HAB.out.2.2.1 a.block ⟨a, ha, rfl⟩).2; have := HAB.out.2.2.2.1 b hb; have := HAB.out.2.2.2.2.1; omega⟩) (fun a ha => by have := HAB.out.2.2.2.1 a ha; have := HAB.out.2.2.2.2.1; have := HAB.out.2.2.2.2.2; omega)
          exact bodyPost_ret (results_cell_row rfl _ _ w.heap.size 31 _ (0, 0) _ rfl hx.1 Tryd.underlying31 rfl (by kernel_rfl)) rfl hx.2
        · intro x w1 cnt1 hx hlx hrg1 hlt hg1 hs1 hen
          have hob1 := lt_of_heap HKA.out.out
          have ho1 : OutAt w1 (w.heap.size + 1) k (.slice A xs.length cap) (.slice B ys.length capB) := (hg1.block _ hob1 (fun e => by have := Option.some.inj e; omega)).trans HKA.out.out
          have m5 : w1.cell? ⟨w.heap.size + 1, 5, none⟩ = some (.slice B ys.length capB) := cell_of ho1 rfl
          have m5a := past m5
          have hlenA : ys.length ≤ 12 := by
            have h1 := HKA.out.perm.length_eq
            have h2 := comeA_length ag leftA
            have h3 := HQ.out.2.2
            omega
          have hown1 : (w1.alloc (.cells #[.int .u64 (x.s : Int), .int .u64 (x.n : Int)] 49)).ownsRow (it + 1) 49 2 (.slice B ys.length capB) ys.length (ys.flatMap encA) := by
            refine own_move HKA.out.own fun g hg => ?_
            have hgl := own_lt HKA.out.own hg
            have hgb := (own_blk HKA.out.own hg).1
            exact (Below.heap_alloc _ _ _ (by omega)).trans (hg1.block g hgl (fun e => by have := Option.some.inj e; omega))
          have hnw : (w1.alloc (.cells #[.int .u64 (x.s : Int), .int .u64 (x.n : Int)] 49)).heap[w1.heap.size]? = some (.cells #[.int .u64 (x.s : Int), .int .u64 (x.n : Int)] 49 (0, 0)) := K.heap_alloc_at _ _
          have hsz2 : (w1.alloc (.cells #[.int .u64 (x.s : Int), .int .u64 (x.n : Int)] 49)).heap.size = w1.heap.size + 1 := by simp
          have hbase : it + 1 ≤ w1.heap.size + 1 := by
            have := HKA.out.rg.lt
            omega
          have ho2 : OutAt (w1.alloc (.cells #[.int .u64 (x.s : Int), .int .u64 (x.n : Int)] 49)) (w.heap.size + 1) k (.slice A xs.length cap) (.slice B ys.length capB) := (Below.heap_alloc _ _ _ (by omega)).trans ho1
          have hne : some (w.heap.size + 1) ≠ (Value.slice B ys.length capB).ownBlock := fun e => by have := (own_blk HKA.out.own e.symm).1; omega
          have HG := Lib.hid (And.intro hx (And.intro hlx (And.intro hrg1 (And.intro hlt (And.intro hg1 (And.intro ho1 hs1))))))
          have HA := Lib.hid (And.intro hown1 (And.intro hnw (And.intro hsz2 (And.intro hbase (And.intro ho2 hne)))))
          have hs1' : w.heap.size + 1 < w1.heap.size + 1 := by omega
          have HS := Lib.hid hs1'
          clear hx hlx hrg1 hlt hg1 ho1 hown1 hnw hsz2 hbase ho2 hs1 hne hob1 hs1'
          go_wp2_with (at_builtin; refine wpList_append_lies _ rfl _ _ _ rfl (it + 1) 49 i49 (.agg #[.int .u64 0, .int .u64 0]) 2 16 Tryd.underlying29 HJ.out.1 HJ.out.2.1 HJ.out.2.2.1 HJ.out.2.2.2 rfl (by omega) (.slice B ys.length capB) ys.length (ys.flatMap encA) rfl HA.out.1 ⟨w1.heap.size, 0, none⟩ 1 1 [.int .u64 (x.s : Int), .int .u64 (x.n : Int)] rfl rfl (World.news_of_block HA.out.2.1) (by simp [Value.oneCell']) (by omega) (by unfold maxLen; omega) (by omega) (by rw [HA.out.2.2.1]; exact HA.out.2.2.2.1) _ rfl ?_; intro gg cp w2 hown2 hgrow hat hlt1; have x1 : w2.cell? ⟨w.heap.size + 1, 5, none⟩ = some (.slice B ys.length capB) := (hgrow.cell_far _ (by rw [HA.out.2.2.1]; exact HS.out) HA.out.2.2.2.2.2).trans (cell_of HA.out.2.2.2.2.1 rfl); have x2 : w2.frozen? ⟨w.heap.size + 1, 5, none⟩ = false := (hgrow.frozen_far _ (by rw [HA.out.2.2.1]; exact HS.out) HA.out.2.2.2.2.2).trans (thawed HA.out.2.2.2.2.1 5); have HF2 := Lib.hid (And.intro hown2 hgrow); clear hown2 hgrow hat hlt1)
          have hst := ka_step HQ.out.2.1 HQR.out.own.lt (lt_of_heap HREL.out.out) (fun e => by
            obtain ⟨es, clock, hm, _⟩ := HQR.out.own
            rw [e, show W0.heap[w.heap.size + 1]? = _ from HREL.out.out] at hm
            cases hm) HIT.out.symm HKA.out HG.out.1 HG.out.2.1 HG.out.2.2.1 HG.out.2.2.2.2.1 HG.out.2.2.2.2.2.2 HF2.out.1 HF2.out.2
          exact ⟨⟨_, _, _, _, _, Lib.hid hst⟩, by rw [hst.rg.left_eq, HKA.out.rg.left_eq]; exact HG.out.2.2.2.1⟩
    · intro x p w1 cnt1 hx hpc hlx hrg1 hlt hg1 hs1 hen
      have hpc1 : PCell w1 p x := pcell_grown hg1 (fun q cs f e => by cases e; exact not93_iter HREL.out.rg cs f) hpc
      have k0 : w1.cell? ⟨p, 0, none⟩ = some (.int .u64 (x.c : Int)) := cell_of hpc1 rfl
      have k1 : w1.cell? ⟨p, 1, none⟩ = some (.int .i64 x.t) := cell_of hpc1 rfl
      have hobl := lt_of_heap HREL.out.out
      have ho1 : OutAt w1 (w.heap.size + 1) k (.slice A xs.length cap) (.slice none 0 0) := (hg1.block _ hobl (fun e => by have := Option.some.inj e; omega)).trans HREL.out.out
      have m4 : w1.cell? ⟨w.heap.size + 1, 4, none⟩ = some (.slice A xs.length cap) := cell_of ho1 rfl
      have mf4 : w1.frozen? ⟨w.heap.size + 1, 4, none⟩ = false := thawed ho1 4
      have hlen : xs.length ≤ 12 := by
        have h1 := HREL.out.perm.length_eq
        have h2 := come_length k.waits left
        omega
      have hown1 : (w1.alloc (.cells #[.int .u64 (x.s : Int), .int .u64 (x.c : Int), .int .i64 x.t] 47)).drew.ownsRow (w.heap.size + 2 + 1) 47 3 (.slice A xs.length cap) xs.length (xs.flatMap encW) := by
        refine own_move HREL.out.own fun g hg => ?_
        have hgl := own_lt HREL.out.own hg
        have hgb := (own_blk HREL.out.own hg).1
        exact (Below.heap_alloc _ _ _ (by omega)).trans (hg1.block g hgl (fun e => by have := Option.some.inj e; omega))
      have hnw : (w1.alloc (.cells #[.int .u64 (x.s : Int), .int .u64 (x.c : Int), .int .i64 x.t] 47)).drew.heap[w1.heap.size]? = some (.cells #[.int .u64 (x.s : Int), .int .u64 (x.c : Int), .int .i64 x.t] 47 (0, 0)) := K.heap_alloc_at _ _
      have hsz2 : (w1.alloc (.cells #[.int .u64 (x.s : Int), .int .u64 (x.c : Int), .int .i64 x.t] 47)).drew.heap.size = w1.heap.size + 1 := by simp
      have hbase : w.heap.size + 2 + 1 ≤ w1.heap.size + 1 := by
        have := HREL.out.rg.lt
        omega
      have hob1 : w.heap.size + 1 < w1.heap.size := by omega
      have ho2 : OutAt (w1.alloc (.cells #[.int .u64 (x.s : Int), .int .u64 (x.c : Int), .int .i64 x.t] 47)).drew (w.heap.size + 1) k (.slice A xs.length cap) (.slice none 0 0) := (Below.heap_alloc _ _ _ hob1).trans ho1
      have hne : some (w.heap.size + 1) ≠ (Value.slice A xs.length cap).ownBlock := fun e => by have := (own_blk HREL.out.own e.symm).1; omega
      have m4a := past m4
      have HG := Lib.hid (And.intro hx (And.intro hlx (And.intro hrg1 (And.intro hlt (And.intro hg1 (And.intro hpc1 ho1))))))
      have HA := Lib.hid (And.intro hown1 (And.intro hnw (And.intro hsz2 (And.intro hbase (And.intro ho2 (And.intro hob1 hs1))))))
      clear hx hlx hrg1 hlt hg1 hpc hpc1 ho1 hown1 hnw hsz2 hbase ho2 hob1 hs1
      go_wp2_with fail
      go_region_law
        ((refine step_append_lies _ (by rfl) _ _ _ (by rfl) (w.heap.size + 2 + 1) 47 i0 (.agg #[.int .u64 0, .int .u64 0, .int .i64 0]) 3 24 Tryd.underlying28 HI.out.1 HI.out.2.1 HI.out.2.2.1 HI.out.2.2.2 rfl (by omega) (.slice A xs.length cap) xs.length (xs.flatMap encW) (by rfl) HA.out.1
            ⟨w1.heap.size, 0, none⟩ 1 1 [.int .u64 (x.s : Int), .int .u64 (x.c : Int), .int .i64 x.t] (by rfl) (by rfl) (World.news_of_block (cs := #[.int .u64 (x.s : Int), .int .u64 (x.c : Int), .int .i64 x.t]) (t := 47) (fr := (0, 0)) HA.out.2.1) (by simp [Value.oneCell'])
            (by omega) (by unfold maxLen; omega) (by omega) (by rw [HA.out.2.2.1]; exact HA.out.2.2.2.1) (w1.heap.size + 1) HA.out.2.2.1 ?_; intro gg cp w2 hown2 hgrow hat hlt1
          have x1 : w2.cell? ⟨w.heap.size + 1, 4, none⟩ = some (.slice A xs.length cap) := (hgrow.cell_far _ (by rw [HA.out.2.2.1]; have := HA.out.2.2.2.2.2.1; simp; omega) hne).trans (cell_of HA.out.2.2.2.2.1 rfl)
          have x2 : w2.frozen? ⟨w.heap.size + 1, 4, none⟩ = false := (hgrow.frozen_far _ (by rw [HA.out.2.2.1]; have := HA.out.2.2.2.2.2.1; simp; omega) hne).trans (thawed HA.out.2.2.2.2.1 4)))
      all_goals
        have HFIN := Lib.hid (ke_step HF.out.up HP.out.own.lt HREL.out HG.out.1 HG.out.2.1 HG.out.2.2.1 HG.out.2.2.2.2.1 HA.out.2.2.2.2.2.2 hown2 hgrow)
        have hm1 := HFIN.out.rg.left_eq
        have hm0 := HREL.out.rg.left_eq
        have glt := HG.out.2.2.2.1
        clear hown2 hgrow hat hlt1 x1 x2
        go_roundw
        case rel => exact ⟨_, _, _, _, _, _, _, _, _, _, _, _, _, _, _, _, _, _, _, _, _, _, ⟨_, _, _, _, _, HFIN⟩, rfl⟩
        case measure => rw [hm1, hm0]; exact glt
end Go.Proofs.YtchphfdoneckeaaDoor
