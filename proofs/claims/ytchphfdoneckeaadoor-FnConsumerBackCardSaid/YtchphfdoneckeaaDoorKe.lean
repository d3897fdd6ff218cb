/-
  keep: a consumer's state as plain data, in order.
-/
import Derived.Test.YtchphfdoneckeaaDoorSw
import Derived.Test.YtchphfdoneckeaaDoorSt
import Derived.BigRegion
import Derived.Deep.AppendLies
import Derived.Deep.RegionLaw
import Derived.StillTailTactics
namespace Go.Proofs.YtchphfdoneckeaaDoor
open Go.RowKit
open Cs (Wt Kp)

def keepV (k : Kp) (A : Option Addr) (cap : Nat) (Bv : Value) : Value := .agg #[.int .u64 (k.dc : Int), .int .u64 (k.ds : Int), .int .u64 (k.fc : Int), .int .u64 (k.fs : Int), .slice A k.waits.length cap, Bv]
def KeepPost (k : Kp) (w : World) (e : Ending) (w' : World) : Prop := ∃ A cap, e = .returned (keepV k A cap (.slice none 0 0)) ∧ WAt w' A k.waits ∧ Below w.heap.size w w' ∧ ∀ a, A = some a → w.heap.size ≤ a.block
theorem KeptAt.c0 {w : World} {sb : Nat} {k : Kp} {pv rv : Value} (h : KeptAt w sb k pv rv) : w.cell? ⟨sb, 0, none⟩ = some (.int .u64 (k.dc : Int)) := cell_of h rfl
theorem KeptAt.c1 {w : World} {sb : Nat} {k : Kp} {pv rv : Value} (h : KeptAt w sb k pv rv) : w.cell? ⟨sb, 1, none⟩ = some (.int .u64 (k.ds : Int)) := cell_of h rfl
theorem KeptAt.c2 {w : World} {sb : Nat} {k : Kp} {pv rv : Value} (h : KeptAt w sb k pv rv) : w.cell? ⟨sb, 2, none⟩ = some (.int .u64 (k.fc : Int)) := cell_of h rfl
theorem KeptAt.c3 {w : World} {sb : Nat} {k : Kp} {pv rv : Value} (h : KeptAt w sb k pv rv) : w.cell? ⟨sb, 3, none⟩ = some (.int .u64 (k.fs : Int)) := cell_of h rfl
theorem KeptAt.c4 {w : World} {sb : Nat} {k : Kp} {pv rv : Value} (h : KeptAt w sb k pv rv) : w.cell? ⟨sb, 4, none⟩ = some pv := cell_of h rfl
theorem KeptAt.c5 {w : World} {sb : Nat} {k : Kp} {pv rv : Value} (h : KeptAt w sb k pv rv) : w.cell? ⟨sb, 5, none⟩ = some rv := cell_of h rfl

/-- the block of out -/
def OutAt (w : World) (ob : Nat) (k : Kp) (Av Bv : Value) : Prop := w.heap[ob]? = some (.cells #[.int .u64 (k.dc : Int), .int .u64 (k.ds : Int), .int .u64 (k.fc : Int), .int .u64 (k.fs : Int), Av, Bv] 31 (0, 0))

theorem up_nodup {l : List Wt} (h : Cs.Up l) : l.Nodup := h.imp (fun {a b} hab e => by subst e; omega)
theorem come_nodup {l : List Wt} (h : Cs.Up l) (left : Lit → Bool) : (come l left).Nodup := up_nodup (Cs.up_sub List.filter_sublist h)
theorem perm_step {l xs : List Wt} (hu : Cs.Up l) {left : Lit → Bool} {x : Wt} (hp : xs.Perm (come l left)) (hx : x ∈ l) (hl : left (key x.s) = true) : (xs ++ [x]).Perm (come l (fun z => left z && !z.sameKey (key x.s))) := by
  have hn := come_nodup hu left
  have hxn : x ∉ xs := fun h => come_new hl x (hp.mem_iff.1 h) rfl
  refine (List.perm_ext_iff_of_nodup ?_ (come_nodup hu _)).2 fun a => ?_
  · rw [List.nodup_append]
    exact ⟨hp.nodup_iff.2 hn, by simp, fun a ha b hb e => by simp at hb; subst hb; subst e; exact hxn ha⟩
  · rw [come_step hu hx hl, List.mem_append, hp.mem_iff]; simp
theorem come_length (l : List Wt) (left : Lit → Bool) : (come l left).length ≤ l.length := List.length_filter_le _ _
theorem info47 : ∃ i : TypeInfo, Tryd.prog.info? 47 = some i ∧ i.zero = some (.agg #[.int .u64 0, .int .u64 0, .int .i64 0]) ∧ i.size = 3 ∧ i.bytes = 24 := ⟨(Tryd.prog.info? 47).get (by kernel_rfl), by kernel_rfl, by kernel_rfl, by kernel_rfl, by kernel_rfl⟩

theorem own_move {w w' : World} {B1 e sz n : Nat} {v : Value} {xs : List Value} (h : w.ownsRow B1 e sz v n xs) (hb : ∀ g, v.ownBlock = some g → w'.heap[g]? = w.heap[g]?) : w'.ownsRow B1 e sz v n xs := by
  obtain ⟨h1, h2⟩ := h
  refine ⟨h1, ?_⟩
  rcases h2 with h2 | ⟨g, cap, cur, rfl, h3, h4, h5⟩
  · exact Or.inl h2
  · exact Or.inr ⟨g, cap, cur, rfl, h3, (hb g rfl).trans h4, h5⟩
theorem own_blk {w : World} {B1 e sz n : Nat} {v : Value} {xs : List Value} (h : w.ownsRow B1 e sz v n xs) {g : Nat} (hg : v.ownBlock = some g) : B1 ≤ g ∧ ∃ cur, w.heap[g]? = some (.cells cur e (0, 0)) := by
  obtain ⟨h1, h2⟩ := h
  rcases h2 with ⟨rfl, _⟩ | ⟨g', cap, cur, rfl, h3, h4, h5⟩
  · cases hg
  · cases hg; exact ⟨h3, cur, h4⟩
theorem own_lt {w : World} {B1 e sz n : Nat} {v : Value} {xs : List Value} (h : w.ownsRow B1 e sz v n xs) {g : Nat} (hg : v.ownBlock = some g) : g < w.heap.size := by
  obtain ⟨_, cur, h4⟩ := own_blk h hg
  exact (Array.getElem?_eq_some_iff.1 h4).1

theorem results_cell1 {fn : Func} {t : Tmp} {T : TypeId} (h : fn.results = #[.cell t T]) (tmps : Array Value) (P : Program) (w : World) {v : Value} {ad : Addr} (ht : tmps.getD t undef = .pointer (some ad)) (hv : (loadVar T ad).run P w = .ok v w) :
    (results fn tmps).run P w = .ok v w := by
  have e : (tmps[t]?.getD undef) = .pointer (some ad) := by simpa using ht
  simp [results, h, hv, e, asAddr]

theorem sort_none29 (lf : Fn) (la lb : Array Value) (w : World) :
    Calls Tryd.prog 31 #[.iface 29 (.slice none 0 0), .func lf la lb] w fun e w' => e = .returned (.tuple #[]) ∧ ∃ os, w' = Sort.grow w os := by
  obtain ⟨i, hi, hd⟩ : ∃ i : TypeInfo, Tryd.prog.info? 29 = some i ∧ i.desc = .slice 49 := ⟨(Tryd.prog.info? 29).get (by kernel_rfl), by kernel_rfl, by kernel_rfl⟩
  obtain ⟨ie, hie⟩ : ∃ i : TypeInfo, Tryd.prog.info? 49 = some i := ⟨(Tryd.prog.info? 49).get (by kernel_rfl), by kernel_rfl⟩
  exact Any.sort_Slice_tiny Tryd.laysGg6 29 49 i ie hi hd (by kernel_rfl) hie 25 (fun _ => by kernel_rfl) none 0 0 (by omega) 55 (by simp only [Lib.swapperK]; kernel_rfl) lf la lb w

theorem WAt.but {S : Nat → Prop} {w w' : World} {A : Option Addr} {l : List Wt} (h : WAt w A l) (hb : But S w w') (hS : ∀ a, A = some a → ¬ S a.block) : WAt w' A l := by
  intro hl
  obtain ⟨b, o, h1, h2, h3⟩ := h hl
  have e : ∀ i, w'.cell? ⟨b, i, none⟩ = w.cell? ⟨b, i, none⟩ := fun i => by simp only [World.cell?, hb.block b h2 (hS _ h1)]
  exact ⟨b, o, h1, Nat.lt_of_lt_of_le h2 hb.size, fun i x hx => by rw [e, e, e]; exact h3 i x hx⟩
theorem ke_fin {w w3 w4 : World} (k : Kp) (A : Option Addr) (cap m : Nat) (hm : m = k.waits.length) (hW : WAt w3 A k.waits) (hB : Below w.heap.size w w3) (hb : But (fun _ => False) w3 w4)
    (hR : w4.heap[w.heap.size]? = some (.cells #[.int .u64 0, .int .u64 0, .int .u64 0, .int .u64 0, .slice none 0 0, .slice none 0 0] 31 (0, 0))) (hA : ∀ a, A = some a → w.heap.size + 1 ≤ a.block) :
    ((((((w4.setCell ⟨w.heap.size, 0, none⟩ (.int .u64 (k.dc : Int))).setCell ⟨w.heap.size, 1, none⟩ (.int .u64 (k.ds : Int))).setCell ⟨w.heap.size, 2, none⟩ (.int .u64 (k.fc : Int))).setCell ⟨w.heap.size, 3, none⟩ (.int .u64 (k.fs : Int))).setCell ⟨w.heap.size, 4, none⟩ (.slice A m cap)).setCell ⟨w.heap.size, 5, none⟩ (.slice none 0 0)).heap[w.heap.size]? =
      some (.cells #[.int .u64 (k.dc : Int), .int .u64 (k.ds : Int), .int .u64 (k.fc : Int), .int .u64 (k.fs : Int), .slice A m cap, .slice none 0 0] 31 (0, 0)) ∧
    KeepPost k w (.returned (.agg #[.int .u64 (k.dc : Int), .int .u64 (k.ds : Int), .int .u64 (k.fc : Int), .int .u64 (k.fs : Int), .slice A m cap, .slice none 0 0]))
      ((((((w4.setCell ⟨w.heap.size, 0, none⟩ (.int .u64 (k.dc : Int))).setCell ⟨w.heap.size, 1, none⟩ (.int .u64 (k.ds : Int))).setCell ⟨w.heap.size, 2, none⟩ (.int .u64 (k.fc : Int))).setCell ⟨w.heap.size, 3, none⟩ (.int .u64 (k.fs : Int))).setCell ⟨w.heap.size, 4, none⟩ (.slice A m cap)).setCell ⟨w.heap.size, 5, none⟩ (.slice none 0 0)) := by
  have hb5 : But (fun j => j = w.heap.size) w4 ((((((w4.setCell ⟨w.heap.size, 0, none⟩ (.int .u64 (k.dc : Int))).setCell ⟨w.heap.size, 1, none⟩ (.int .u64 (k.ds : Int))).setCell ⟨w.heap.size, 2, none⟩ (.int .u64 (k.fc : Int))).setCell ⟨w.heap.size, 3, none⟩ (.int .u64 (k.fs : Int))).setCell ⟨w.heap.size, 4, none⟩ (.slice A m cap)).setCell ⟨w.heap.size, 5, none⟩ (.slice none 0 0)) :=
    ((((((But.refl (fun j => j = w.heap.size) w4).setCell _ _ (fun _ => rfl)).setCell _ _ (fun _ => rfl)).setCell _ _ (fun _ => rfl)).setCell _ _ (fun _ => rfl)).setCell _ _ (fun _ => rfl)).setCell _ _ (fun _ => rfl)
  refine ⟨K.heap_setCell_at (K.heap_setCell_at (K.heap_setCell_at (K.heap_setCell_at (K.heap_setCell_at (K.heap_setCell_at hR _) _) _) _) _) _, A, cap, by unfold keepV; rw [hm], (hW.but hb (fun _ _ h => h)).but hb5 (fun a ha e => by have := hA a ha; omega), ?_, fun a ha => by have := hA a ha; omega⟩
  exact But.below (But.below hB hb (fun _ h => h.elim) hB.size) hb5 (fun j e => by omega) (by have := hB.size; have := hb.size; omega)

structure KeRel (w : World) (sb ob it b n : Nat) (D : DataW Unit) (k : Kp) (left : Lit → Bool) (cnt : Nat) (A : Option Addr) (cap : Nat) (xs : List Wt) (wr : World) : Prop where
  rg : wr.ranges Tryd.prog 25 PtrE b it n D left cnt
  src : PMap wr b n D k.waits
  has : ∀ kl, left kl = true → Maps.has D kl = true
  bl : Below w.heap.size w wr
  out : OutAt wr ob k (.slice A xs.length cap) (.slice none 0 0)
  own : wr.ownsRow (it + 1) 47 3 (.slice A xs.length cap) xs.length (xs.flatMap encW)
  perm : xs.Perm (come k.waits left)
  res : wr.heap[w.heap.size]? = some (.cells #[.int .u64 0, .int .u64 0, .int .u64 0, .int .u64 0, .slice none 0 0, .slice none 0 0] 31 (0, 0))
  hob : ob = w.heap.size + 1
  hit : it = w.heap.size + 2

/-- one more has come -/
theorem ke_step {w wr w1 w2 : World} {sb b n gg cp cnt cnt1 : Nat} {D : DataW Unit} {k : Kp} {left : Lit → Bool} {A : Option Addr} {cap : Nat} {xs : List Wt} {x : Wt} (hu : Cs.Up k.waits) (hbb : b < w.heap.size)
    (H : KeRel w sb (w.heap.size + 1) (w.heap.size + 2) b n D k left cnt A cap xs wr) (gx : x ∈ k.waits) (glx : left (key x.s) = true) (grg1 : w1.ranges Tryd.prog 25 PtrE b (w.heap.size + 2) n D (fun z => left z && !z.sameKey (key x.s)) cnt1)
    (gg1 : wr.grownBy w1 (some (w.heap.size + 2))) (as1 : w1.heap.size = wr.heap.size)
    (hown2 : w2.ownsRow (w.heap.size + 2 + 1) 47 3 (.slice (some ⟨gg, 0, none⟩) (xs.length + 1) cp) (xs.length + 1) (xs.flatMap encW ++ [.int .u64 (x.s : Int), .int .u64 (x.c : Int), .int .i64 x.t]))
    (hgrow : (w1.alloc (.cells #[.int .u64 (x.s : Int), .int .u64 (x.c : Int), .int .i64 x.t] 47)).drew.grownBy w2 (Value.slice A xs.length cap).ownBlock) :
    KeRel w sb (w.heap.size + 1) (w.heap.size + 2) b n D k (fun z => left z && !z.sameKey (key x.s)) cnt1 (some ⟨gg, 0, none⟩) cp (xs ++ [x]) (w2.setCell ⟨w.heap.size + 1, 4, none⟩ (.slice (some ⟨gg, 0, none⟩) (xs.length + 1) cp)) := by
  have hbwr := H.bl
  have hitl := H.rg.lt
  have hobl := lt_of_heap H.out
  have go1 : OutAt w1 (w.heap.size + 1) k (.slice A xs.length cap) (.slice none 0 0) := (gg1.block _ hobl (fun e => by have := Option.some.inj e; omega)).trans H.out
  have hsz : (w1.alloc (.cells #[.int .u64 (x.s : Int), .int .u64 (x.c : Int), .int .i64 x.t] 47)).drew.heap.size = w1.heap.size + 1 := by simp
  have ao2 : OutAt (w1.alloc (.cells #[.int .u64 (x.s : Int), .int .u64 (x.c : Int), .int .i64 x.t] 47)).drew (w.heap.size + 1) k (.slice A xs.length cap) (.slice none 0 0) := (Below.heap_alloc _ _ _ (by omega)).trans go1
  have hnb : ∀ g, (Value.slice A xs.length cap).ownBlock = some g → w.heap.size + 3 ≤ g ∧ g < wr.heap.size := fun g hg => ⟨(own_blk H.own hg).1, own_lt H.own hg⟩
  have hmove : ∀ q y, PCell wr q y → PCell w2 q y := fun q y hq => by
    have h1 := pcell_grown gg1 (fun q cs f e => by cases e; exact not93_iter H.rg cs f) hq
    have h2 : PCell (w1.alloc (.cells #[.int .u64 (x.s : Int), .int .u64 (x.c : Int), .int .i64 x.t] 47)).drew q y := (Below.heap_alloc _ _ _ (lt_of_heap h1)).trans h1
    refine pcell_grown hgrow (fun q cs f e h93 => ?_) h2
    obtain ⟨h4, cur, h3⟩ := own_blk H.own e
    have h5 := own_lt H.own e
    have h6 : (w1.alloc (.cells #[.int .u64 (x.s : Int), .int .u64 (x.c : Int), .int .i64 x.t] 47)).drew.heap[q]? = some (.cells cur 47 (0, 0)) := ((Below.heap_alloc _ _ _ (by omega)).trans (gg1.block q h5 (fun e => by have := Option.some.inj e; omega))).trans h3
    rw [h6] at h93
    cases h93
  have hrg2 := ((ranges_drew (grg1.alloc (.cells #[.int .u64 (x.s : Int), .int .u64 (x.c : Int), .int .i64 x.t] 47)))).kept (w' := w2) hgrow (fun e => by have := (hnb _ e.symm).1; omega) (fun e => by have := (hnb _ e.symm).1; omega)
  have hsrc := H.src.move (((H.src.own.kept gg1 (fun e => by have := Option.some.inj e; omega)).alloc (.cells #[.int .u64 (x.s : Int), .int .u64 (x.c : Int), .int .i64 x.t] 47)).drew.kept hgrow (fun e => by have := (hnb _ e.symm).1; omega)) hmove
  have hperm := perm_step hu H.perm gx glx
  have hout2 : OutAt w2 (w.heap.size + 1) k (.slice A xs.length cap) (.slice none 0 0) := (hgrow.block _ (by omega) (fun e => by have := (hnb _ e.symm).1; omega)).trans ao2
  have hres2 : w2.heap[w.heap.size]? = some (.cells #[.int .u64 0, .int .u64 0, .int .u64 0, .int .u64 0, .slice none 0 0, .slice none 0 0] 31 (0, 0)) := by
    refine (hgrow.block _ (by omega) (fun e => by have := (hnb _ e.symm).1; omega)).trans ?_
    refine (Below.heap_alloc _ _ _ (by omega)).trans ?_
    exact (gg1.block _ (by omega) (fun e => by have := Option.some.inj e; omega)).trans H.res
  have hb3 : But (fun j => j = w.heap.size + 1) w2 (w2.setCell ⟨w.heap.size + 1, 4, none⟩ (.slice (some ⟨gg, 0, none⟩) (xs.length + 1) cp)) := (But.refl _ w2).setCell _ _ (fun _ => rfl)
  have hbelow : Below w.heap.size w w2 := (Below.drew ((hbwr.grown gg1 hbwr.size (fun j hj => by cases hj; omega)).alloc (by omega) _)).grown hgrow (by omega) (fun j hj => by have := (hnb _ hj).1; omega)
  have hgr3 : w2.grownBy (w2.setCell ⟨w.heap.size + 1, 4, none⟩ (.slice (some ⟨gg, 0, none⟩) (xs.length + 1) cp)) (some (w.heap.size + 1)) := hb3.grownBy (fun j hj => by rw [hj])
  exact {
    rg := hrg2.kept hgr3 (fun e => by have := Option.some.inj e; omega) (fun e => by have := Option.some.inj e; omega)
    src := hsrc.but hb3 (by omega) (fun p cs f e => by subst e; rw [show w2.heap[w.heap.size + 1]? = _ from hout2]; intro e; injection e with e; injection e with _ e _; exact absurd e (by decide))
    has := fun kl h => H.has kl (by simp at h; exact h.1)
    bl := hbelow.trans ⟨hb3.os, hb3.tape, hb3.output, hb3.size, fun j hj => hb3.block j (by have := hbelow.size; omega) (by omega)⟩
    out := by rw [List.length_append]; exact K.heap_setCell_at hout2 _
    own := by
      rw [List.length_append, List.flatMap_append]
      refine own_move hown2 fun g hg => hb3.block g (own_lt hown2 hg) (fun e => ?_)
      have := (own_blk hown2 hg).1
      omega
    perm := hperm
    res := (hb3.block _ (lt_of_heap hres2) (by omega)).trans hres2
    hob := rfl
    hit := rfl }

set_option maxHeartbeats 2000000 in
set_option maxRecDepth 100000 in
theorem keep_some (sb b n : Nat) (D : DataW Unit) (k : Kp) (w : World) (hK : KeptAt w sb k (.map (some b)) (.map none)) (hP : PMap w b n D k.waits) (hF : Fits k) (hl : k.waits.length ≤ 12) :
    Calls Tryd.prog 19 #[.pointer (some ⟨sb, 0, none⟩)] w (KeepPost k w) := by
  have HK := Lib.hid hK
  have HP := Lib.hid hP
  have HF := Lib.hid hF
  clear hK hP hF
  go_enter Tryd.func19, Tryd.ntmps19
  go_wp2_with fail
  have hbW : Below w.heap.size w (w.alloc (.cells #[.int .u64 0, .int .u64 0, .int .u64 0, .int .u64 0, .slice none 0 0, .slice none 0 0] 31)) := (Below.refl _ _).alloc (Nat.le_refl _) _
  have hRb : (w.alloc (.cells #[.int .u64 0, .int .u64 0, .int .u64 0, .int .u64 0, .slice none 0 0, .slice none 0 0] 31)).heap[w.heap.size]? = some (.cells #[.int .u64 0, .int .u64 0, .int .u64 0, .int .u64 0, .slice none 0 0, .slice none 0 0] 31 (0, 0)) := K.heap_alloc_at _ _
  have hsW : (w.alloc (.cells #[.int .u64 0, .int .u64 0, .int .u64 0, .int .u64 0, .slice none 0 0, .slice none 0 0] 31)).heap.size = w.heap.size + 1 := by simp
  generalize w.alloc (.cells #[.int .u64 0, .int .u64 0, .int .u64 0, .int .u64 0, .slice none 0 0, .slice none 0 0] 31) = W at hbW hRb hsW ⊢
  have hKW : KeptAt W sb k (.map (some b)) (.map none) := (hbW.block _ (lt_of_heap HK.out)).trans HK.out
  have hPW : PMap W b n D k.waits := HP.out.but (S := fun _ => False) (But.of hbW) (fun h => h) (fun _ _ _ h => h.elim)
  have HW := Lib.hid (And.intro hbW (And.intro hRb (And.intro hKW (And.intro hPW hsW))))
  have c0 := hKW.c0
  have c1 := hKW.c1
  have c2 := hKW.c2
  have c3 := hKW.c3
  have d0 := past hKW.c0
  have d1 := past hKW.c1
  have d2 := past hKW.c2
  have d3 := past hKW.c3
  clear hbW hRb hKW hPW hsW
  go_region
  have hV : OutAt (W.alloc (.cells #[.int .u64 (k.dc : Int), .int .u64 (k.ds : Int), .int .u64 (k.fc : Int), .int .u64 (k.fs : Int), .slice none 0 0, .slice none 0 0] 31)).drew W.heap.size k (.slice none 0 0) (.slice none 0 0) := K.heap_alloc_at _ _
  have hbV : Below W.heap.size W (W.alloc (.cells #[.int .u64 (k.dc : Int), .int .u64 (k.ds : Int), .int .u64 (k.fc : Int), .int .u64 (k.fs : Int), .slice none 0 0, .slice none 0 0] 31)).drew := Below.drew ((Below.refl _ _).alloc (Nat.le_refl _) _)
  have hsV : (W.alloc (.cells #[.int .u64 (k.dc : Int), .int .u64 (k.ds : Int), .int .u64 (k.fc : Int), .int .u64 (k.fs : Int), .slice none 0 0, .slice none 0 0] 31)).drew.heap.size = w.heap.size + 2 := by
    have := HW.out.2.2.2.2
    simp; omega
  generalize (W.alloc (.cells #[.int .u64 (k.dc : Int), .int .u64 (k.ds : Int), .int .u64 (k.fc : Int), .int .u64 (k.fs : Int), .slice none 0 0, .slice none 0 0] 31)).drew = V at hV hbV hsV ⊢
  have hKV : KeptAt V sb k (.map (some b)) (.map none) := (hbV.block _ (lt_of_heap HW.out.2.2.1)).trans HW.out.2.2.1
  have hPV : PMap V b n D k.waits := HW.out.2.2.2.1.but (S := fun _ => False) (But.of hbV) (fun h => h) (fun _ _ _ h => h.elim)
  have hRV : V.heap[w.heap.size]? = some (.cells #[.int .u64 0, .int .u64 0, .int .u64 0, .int .u64 0, .slice none 0 0, .slice none 0 0] 31 (0, 0)) := (hbV.block _ (lt_of_heap HW.out.2.1)).trans HW.out.2.1
  have hbwV : Below w.heap.size w V := HW.out.1.trans (hbV.mono (by rw [HW.out.2.2.2.2]; omega))
  rw [HW.out.2.2.2.2] at hV ⊢
  have HV := Lib.hid (And.intro hV (And.intro hKV (And.intro hPV (And.intro hRV hbwV))))
  have hown := hPV.own
  have c4 := hKV.c4
  clear hV hbV hKV hPV hRV hbwV c0 c1 c2 c3 d0 d1 d2 d3
  go_wp2_with (first | (at_range; refine wpList_range_own _ rfl _ 79 rfl 25 91 K25 Tryd.underlying79 PtrE b n D rfl hown ?_; intro w0 hrg0 hg0 hs0) | go_in)
  go_frame
  have hit : (⟨V.heap.size, 0, none⟩ : Addr) = ⟨w.heap.size + 2, 0, none⟩ := by rw [hsV]
  rw [hit]
  rw [hsV] at hrg0 hs0
  obtain ⟨i0, hi0, hz0, hz1, hz2⟩ := info47
  have HI := Lib.hid (And.intro hi0 (And.intro hz0 (And.intro hz1 hz2)))
  have HG0 := Lib.hid (And.intro hrg0 (And.intro hg0 hs0))
  clear hit hrg0 hg0 hs0 hsV hi0 hz0 hz1 hz2 hown c4
  go_loopw [4, 5] (fun _ _ wr => ∃ (left : Lit → Bool) (cnt : Nat) (A : Option Addr) (cap : Nat) (xs : List Wt), Hid (KeRel w sb (w.heap.size + 1) (w.heap.size + 2) b n D k left cnt A cap xs wr)) (fun _ _ wr => wr.rangeLeft b (w.heap.size + 2))
  case atStart =>
    obtain ⟨hV, hKV, hPV, hRV, hbwV⟩ := HV.out
    obtain ⟨hrg0, hg0, hs0⟩ := HG0.out
    have hb0 : But (fun _ => False) V w0 := (But.refl _ V).grown hg0 (fun _ h => by cases h)
    refine ⟨_, _, none, 0, [], Lib.hid ⟨hrg0, hPV.but hb0 (fun h => h) (fun _ _ _ h => h.elim), fun _ h => h, hbwV.grown hg0 hbwV.size (fun j hj => by cases hj), (hb0.block _ (lt_of_heap hV) (fun h => h)).trans hV, World.ownsRow_nil _ _ _ _, ?_, (hb0.block _ (lt_of_heap hRV) (fun h => h)).trans hRV, rfl, rfl⟩⟩
    rw [come_start (fun x hx => hPV.has_of hx)]
  case round =>
    obtain ⟨left, cnt, A, cap, xs, HREL⟩ := hrel
    go_wp2_with (first
      | (at_next; refine wpList_next_pend _ rfl _ rfl b (w.heap.size + 2) n D left cnt k.waits rfl HREL.out.src HREL.out.rg HREL.out.has ?_ ?_)
      | go_in)
    · intro hc0 hl0
      have hperm := HREL.out.perm
      rw [come_end hl0] at hperm
      have hKr : KeptAt wr sb k (.map (some b)) (.map none) := (HREL.out.bl.block _ (lt_of_heap HK.out)).trans HK.out
      have c5 := hKr.c5
      have HPM := Lib.hid hperm
      have hrg80 := fun w => run_range_nilMap (P := Tryd.prog) w 80 25 25 Tryd.underlying80
      have hnx80 : ∀ (w : World) ty, (Instr.next (.pointer (some ⟨w.heap.size, 0, none⟩)) false ty).run Tryd.prog (w.alloc (.mapIter none 0 #[] 0)) = _ := fun w ty => run_next_nilMap w ty 0 0 #[]
      have o4 := past (cell_of (i := 4) (v := .slice A xs.length cap) HREL.out.out rfl)
      have hobl := lt_of_heap HREL.out.out
      have hlen : xs.length ≤ 12 := by have := hperm.length_eq; omega
      have hO1 : OutAt (wr.alloc (.mapIter none 0 #[] 0)) (w.heap.size + 1) k (.slice A xs.length cap) (.slice none 0 0) := (Below.heap_alloc _ _ _ hobl).trans HREL.out.out
      have hS := sort_waits (w.heap.size + 2 + 1) (w.heap.size + 1) xs.length cap A xs k.waits (wr.alloc (.mapIter none 0 #[] 0)) (own_move HREL.out.own fun g hg => Below.heap_alloc _ _ _ (own_lt HREL.out.own hg)) hlen (cell_of hO1 rfl) (fun a ha e => by have := (own_blk HREL.out.own (g := a.block) (by rw [ha]; rfl)).1; omega) hperm HF.out.up
      have HO1 := Lib.hid hO1
      clear hperm hKr hc0 hO1 hobl hlen
      go_wp2_with fail
      refine wp_loop_rounds 1 ?_
      rw [rounds_succ]
      go_wp2_with fail
      refine hS.mono ?_
      rintro e w3 ⟨rfl, hW3, hb3⟩
      have hAg : ∀ j, (∃ a, A = some a ∧ j = a.block) → w.heap.size + 3 ≤ j := fun j ⟨a, ha, hj⟩ => by rw [hj]; exact (own_blk HREL.out.own (g := a.block) (by rw [ha]; rfl)).1
      have hO3 : OutAt w3 (w.heap.size + 1) k (.slice A xs.length cap) (.slice none 0 0) := (hb3.block _ (lt_of_heap HO1.out) (fun h => by have := hAg _ h; omega)).trans HO1.out
      have hR3 : w3.heap[w.heap.size]? = some (.cells #[.int .u64 0, .int .u64 0, .int .u64 0, .int .u64 0, .slice none 0 0, .slice none 0 0] 31 (0, 0)) := by
        have hl := lt_of_heap HREL.out.res
        exact ((hb3.block _ (by simp; omega) (fun h => by have := hAg _ h; omega)).trans (Below.heap_alloc _ _ _ hl)).trans HREL.out.res
      have hB3 : Below w.heap.size w w3 := But.below (HREL.out.bl.alloc HREL.out.bl.size _) hb3 (fun j h => by have := hAg _ h; omega) (by have := HREL.out.bl.size; simp; omega)
      have o5 : w3.cell? ⟨w.heap.size + 1, 5, none⟩ = some (.slice none 0 0) := cell_of hO3 rfl
      have H3 := Lib.hid (And.intro hO3 (And.intro hR3 (And.intro hB3 hW3)))
      clear hO3 hR3 hB3 hW3 hb3 hS o4
      go_wp2_with fail
      refine (sort_none29 (.func 33) #[] #[.pointer (some ⟨w.heap.size + 1, 0, none⟩)] w3).mono ?_
      rintro e w4 ⟨rfl, os, hw4⟩
      have hb4 : But (fun _ => False) w3 w4 := by rw [hw4]; exact but_grow (But.refl _ w3) os
      have hO4 : OutAt w4 (w.heap.size + 1) k (.slice A xs.length cap) (.slice none 0 0) := (hb4.block _ (lt_of_heap H3.out.1) (fun h => h)).trans H3.out.1
      have hR4 := (hb4.block _ (lt_of_heap H3.out.2.1) (fun h => h)).trans H3.out.2.1
      have q0 : w4.cell? ⟨w.heap.size + 1, 0, none⟩ = some (.int .u64 (k.dc : Int)) := cell_of hO4 rfl
      have q1 : w4.cell? ⟨w.heap.size + 1, 1, none⟩ = some (.int .u64 (k.ds : Int)) := cell_of hO4 rfl
      have q2 : w4.cell? ⟨w.heap.size + 1, 2, none⟩ = some (.int .u64 (k.fc : Int)) := cell_of hO4 rfl
      have q3 : w4.cell? ⟨w.heap.size + 1, 3, none⟩ = some (.int .u64 (k.fs : Int)) := cell_of hO4 rfl
      have q4 : w4.cell? ⟨w.heap.size + 1, 4, none⟩ = some (.slice A xs.length cap) := cell_of hO4 rfl
      have q5 : w4.cell? ⟨w.heap.size + 1, 5, none⟩ = some (.slice none 0 0) := cell_of hO4 rfl
      have r0 : w4.cell? ⟨w.heap.size, 0, none⟩ = some (.int .u64 0) := cell_of hR4 rfl
      have r1 : w4.cell? ⟨w.heap.size, 1, none⟩ = some (.int .u64 0) := cell_of hR4 rfl
      have r2 : w4.cell? ⟨w.heap.size, 2, none⟩ = some (.int .u64 0) := cell_of hR4 rfl
      have r3 : w4.cell? ⟨w.heap.size, 3, none⟩ = some (.int .u64 0) := cell_of hR4 rfl
      have r4 : w4.cell? ⟨w.heap.size, 4, none⟩ = some (.slice none 0 0) := cell_of hR4 rfl
      have r5 : w4.cell? ⟨w.heap.size, 5, none⟩ = some (.slice none 0 0) := cell_of hR4 rfl
      have f0 := thawed hR4 0
      have f1 := thawed hR4 1
      have f2 := thawed hR4 2
      have f3 := thawed hR4 3
      have f4 := thawed hR4 4
      have f5 := thawed hR4 5
      have H4 := Lib.hid (And.intro hR4 hb4)
      clear hO4 hR4 hb4 hw4 o5
      go_wp2_with fail
      have hx := ke_fin k A cap xs.length HPM.out.length_eq H3.out.2.2.2 H3.out.2.2.1 H4.out.2 H4.out.1 (fun a ha => by have := (own_blk HREL.out.own (g := a.block) (by rw [ha]; rfl)).1; omega)
      exact bodyPost_ret (results_cell_row rfl _ _ w.heap.size 31 _ (0, 0) _ rfl hx.1 Tryd.underlying31 rfl (by kernel_rfl)) rfl hx.2
    · intro x p w1 cnt1 hx hpc hlx hrg1 hlt hg1 hs1 hen
      have hpc1 : PCell w1 p x := pcell_grown hg1 (fun q cs f e => by cases e; exact not93_iter HREL.out.rg cs f) hpc
      have k0 : w1.cell? ⟨p, 0, none⟩ = some (.int .u64 (x.c : Int)) := cell_of hpc1 rfl
      have k1 : w1.cell? ⟨p, 1, none⟩ = some (.int .i64 x.t) := cell_of hpc1 rfl
      have hobl := lt_of_heap HREL.out.out
      have ho1 : OutAt w1 (w.heap.size + 1) k (.slice A xs.length cap) (.slice none 0 0) := (hg1.block _ hobl (fun e => by have := Option.some.inj e; omega)).trans HREL.out.out
      have m4 : w1.cell? ⟨w.heap.size + 1, 4, none⟩ = some (.slice A xs.length cap) := cell_of ho1 rfl
      have mf4 : w1.frozen? ⟨w.heap.size + 1, 4, none⟩ = false := thawed ho1 4
      have hlen : xs.length ≤ 12 := by
        have h1 := HREL.out.perm.length_eq
        have h2 := come_length k.waits left
        omega
      have hown1 : (w1.alloc (.cells #[.int .u64 (x.s : Int), .int .u64 (x.c : Int), .int .i64 x.t] 47)).drew.ownsRow (w.heap.size + 2 + 1) 47 3 (.slice A xs.length cap) xs.length (xs.flatMap encW) := by
        refine own_move HREL.out.own fun g hg => ?_
        have hgl := own_lt HREL.out.own hg
        have hgb := (own_blk HREL.out.own hg).1
        exact (Below.heap_alloc _ _ _ (by omega)).trans (hg1.block g hgl (fun e => by have := Option.some.inj e; omega))
      have hnw : (w1.alloc (.cells #[.int .u64 (x.s : Int), .int .u64 (x.c : Int), .int .i64 x.t] 47)).drew.heap[w1.heap.size]? = some (.cells #[.int .u64 (x.s : Int), .int .u64 (x.c : Int), .int .i64 x.t] 47 (0, 0)) := K.heap_alloc_at _ _
      have hsz2 : (w1.alloc (.cells #[.int .u64 (x.s : Int), .int .u64 (x.c : Int), .int .i64 x.t] 47)).drew.heap.size = w1.heap.size + 1 := by simp
      have hbase : w.heap.size + 2 + 1 ≤ w1.heap.size + 1 := by
        have := HREL.out.rg.lt
        omega
      have hob1 : w.heap.size + 1 < w1.heap.size := by omega
      have ho2 : OutAt (w1.alloc (.cells #[.int .u64 (x.s : Int), .int .u64 (x.c : Int), .int .i64 x.t] 47)).drew (w.heap.size + 1) k (.slice A xs.length cap) (.slice none 0 0) := (Below.heap_alloc _ _ _ hob1).trans ho1
      have hne : some (w.heap.size + 1) ≠ (Value.slice A xs.length cap).ownBlock := fun e => by have := (own_blk HREL.out.own e.symm).1; omega
      have m4a := past m4
      have HG := Lib.hid (And.intro hx (And.intro hlx (And.intro hrg1 (And.intro hlt (And.intro hg1 (And.intro hpc1 ho1))))))
      have HA := Lib.hid (And.intro hown1 (And.intro hnw (And.intro hsz2 (And.intro hbase (And.intro ho2 (And.intro hob1 hs1))))))
      clear hx hlx hrg1 hlt hg1 hpc hpc1 ho1 hown1 hnw hsz2 hbase ho2 hob1 hs1
      go_wp2_with fail
      go_region_law
        ((refine step_append_lies _ (by rfl) _ _ _ (by rfl) (w.heap.size + 2 + 1) 47 i0 (.agg #[.int .u64 0, .int .u64 0, .int .i64 0]) 3 24 Tryd.underlying28 HI.out.1 HI.out.2.1 HI.out.2.2.1 HI.out.2.2.2 rfl (by omega) (.slice A xs.length cap) xs.length (xs.flatMap encW) (by rfl) HA.out.1
            ⟨w1.heap.size, 0, none⟩ 1 1 [.int .u64 (x.s : Int), .int .u64 (x.c : Int), .int .i64 x.t] (by rfl) (by rfl) (World.news_of_block (cs := #[.int .u64 (x.s : Int), .int .u64 (x.c : Int), .int .i64 x.t]) (t := 47) (fr := (0, 0)) HA.out.2.1) (by simp [Value.oneCell'])
            (by omega) (by unfold maxLen; omega) (by omega) (by rw [HA.out.2.2.1]; exact HA.out.2.2.2.1) (w1.heap.size + 1) HA.out.2.2.1 ?_; intro gg cp w2 hown2 hgrow hat hlt1
          have x1 : w2.cell? ⟨w.heap.size + 1, 4, none⟩ = some (.slice A xs.length cap) := (hgrow.cell_far _ (by rw [HA.out.2.2.1]; have := HA.out.2.2.2.2.2.1; simp; omega) hne).trans (cell_of HA.out.2.2.2.2.1 rfl)
          have x2 : w2.frozen? ⟨w.heap.size + 1, 4, none⟩ = false := (hgrow.frozen_far _ (by rw [HA.out.2.2.1]; have := HA.out.2.2.2.2.2.1; simp; omega) hne).trans (thawed HA.out.2.2.2.2.1 4)))
      all_goals
        have HFIN := Lib.hid (ke_step HF.out.up HP.out.own.lt HREL.out HG.out.1 HG.out.2.1 HG.out.2.2.1 HG.out.2.2.2.2.1 HA.out.2.2.2.2.2.2 hown2 hgrow)
        have hm1 := HFIN.out.rg.left_eq
        have hm0 := HREL.out.rg.left_eq
        have glt := HG.out.2.2.2.1
        clear hown2 hgrow hat hlt1 x1 x2
        go_roundw
        case rel => exact ⟨_, _, _, _, _, _, _, _, _, _, _, _, _, _, _, _, _, _, _, _, _, _, ⟨_, _, _, _, _, HFIN⟩, rfl⟩
        case measure => rw [hm1, hm0]; exact glt
end Go.Proofs.YtchphfdoneckeaaDoor
