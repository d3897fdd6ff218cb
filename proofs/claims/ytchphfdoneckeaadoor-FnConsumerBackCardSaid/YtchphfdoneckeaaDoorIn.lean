/-
  inner: a consumer's state as the program has it: its two maps.
-/
import Derived.Test.YtchphfdoneckeaaDoorKb
import Derived.Test.YtchphfdoneckeaaDoorSk
import Derived.BigRegion
import Derived.WalkSpells
import Derived.Deep.Cut
namespace Go.Proofs.YtchphfdoneckeaaDoor
open Go.RowKit
open Cs (Wt Kp Ag)

theorem AAt.get {w : World} {A : Option Addr} {l : List Ag} (h : AAt w A l) {i : Nat} (hi : i < l.length) : ∃ b o, A = some ⟨b, o, none⟩ ∧ w.cell? ⟨b, o + i * 2, none⟩ = some (.int .u64 (l[i].s : Int)) ∧ w.cell? ⟨b, o + i * 2 + 1, none⟩ = some (.int .u64 (l[i].n : Int)) := by
  obtain ⟨b, o, h1, _, h3⟩ := h (fun e => by rw [e] at hi; simp at hi)
  exact ⟨b, o, h1, h3 i l[i] (List.getElem?_eq_getElem hi)⟩
theorem mem_take_more {α : Type} {l : List α} {j : Nat} (hj : j < l.length) (y : α) : y ∈ l.take (j + 1) ↔ y ∈ l.take j ∨ y = l[j] := by
  rw [List.take_succ_eq_append_getElem hj, List.mem_append, List.mem_singleton]
theorem up_take_ne {l : List Wt} (h : Cs.Up l) {j : Nat} (hj : j < l.length) : ∀ y ∈ l.take j, y.s ≠ l[j].s := fun y hy => by
  obtain ⟨i, hi, rfl⟩ := List.mem_take_iff_getElem.1 hy
  have := List.pairwise_iff_getElem.1 h i j (by omega) hj (by omega)
  omega
theorem aup_take_ne {l : List Ag} (h : Cs.AUp l) {j : Nat} (hj : j < l.length) : ∀ y ∈ l.take j, y.s ≠ l[j].s := fun y hy => by
  obtain ⟨i, hi, rfl⟩ := List.mem_take_iff_getElem.1 hy
  have := List.pairwise_iff_getElem.1 h i j (by omega) hj (by omega)
  omega
/-- what waits, as a map, the first j of it -/
def Pend1 (B0 : Nat) (wr : World) (pv : Value) (j : Nat) (l : List Wt) : Prop := (j = 0 ∧ pv = .map none) ∨ ∃ b D, 0 < j ∧ pv = .map (some b) ∧ PMap wr b j D (l.take j) ∧ B0 < b
def Redel1 (B0 : Nat) (wr : World) (rv : Value) (j : Nat) (l : List Ag) : Prop := (j = 0 ∧ rv = .map none) ∨ ∃ b D, 0 < j ∧ rv = .map (some b) ∧ RMap wr b j D (l.take j) ∧ B0 < b
structure In1 (S : Nat) (W : World) (k : Kp) (pv : Value) (j : Nat) (wr : World) : Prop where
  bt : But (fun q => q = S) W wr
  st : KeptAt wr S k pv (.map none)
  mp : Pend1 S wr pv j k.waits
structure In2 (S : Nat) (W : World) (k : Kp) (ag : List Ag) (pv rv : Value) (j : Nat) (wr : World) : Prop where
  bt : But (fun q => q = S) W wr
  st : KeptAt wr S k pv rv
  mp : Pend1 S wr pv k.waits.length k.waits
  rd : Redel1 S wr rv j ag
  ne : ∀ p r, pv = .map (some p) → rv = .map (some r) → p ≠ r
theorem KeptAt.not93 {w : World} {sb : Nat} {k : Kp} {pv rv : Value} (h : KeptAt w sb k pv rv) (cs : Array Value) (f : Nat × Nat) : w.heap[sb]? ≠ some (.cells cs 93 f) := by
  rw [show w.heap[sb]? = _ from h]
  intro e; injection e with e; injection e with _ e _; exact absurd e (by decide)
theorem In1.step {S : Nat} {W V w2 : World} {k : Kp} {b j : Nat} {D : DataW Unit} (hj : j < k.waits.length) (hu : Cs.Up k.waits) (hbt : But (fun q => q = S) W V) (hst : KeptAt V S k (.map (some b)) (.map none)) (hP : PMap V b j D (k.waits.take j)) (hb : S < b) (hbW : W.heap.size ≤ b)
    (hown2 : w2.ownsMap Tryd.prog 25 PtrE b (j + 1) (D.put (key k.waits[j].s) (.lit (.int .u64 (V.heap.size : Int))))) (hg2 : ((V.alloc (.cells #[.int .u64 (k.waits[j].c : Int), .int .i64 k.waits[j].t] 93)).drew).grownBy w2 (some b)) :
    In1 S W k (.map (some b)) (j + 1) w2 := by
  have hsz : (V.alloc (.cells #[.int .u64 (k.waits[j].c : Int), .int .i64 k.waits[j].t] 93)).drew.heap.size = V.heap.size + 1 := by simp
  have hSV := lt_of_heap hst
  have hbl := hP.own.lt
  have hmove : ∀ q y, PCell V q y → PCell w2 q y := fun q y hq => by
    have h2 : PCell (V.alloc (.cells #[.int .u64 (k.waits[j].c : Int), .int .i64 k.waits[j].t] 93)).drew q y := (Below.heap_alloc _ _ _ (lt_of_heap hq)).trans hq
    exact pcell_grown hg2 (fun q cs f e => by cases e; exact not93_map ((hP.own.alloc (.cells #[.int .u64 (k.waits[j].c : Int), .int .i64 k.waits[j].t] 93)).drew) cs f) h2
  have hx : PCell w2 V.heap.size k.waits[j] := (hg2.block _ (by omega) (fun e => by have := Option.some.inj e; omega)).trans (boxed_cell V _ _)
  have hput := hP.put hown2 hmove hx (mem_take_more hj) (up_take_ne hu hj)
  refine ⟨((hbt.alloc (.cells #[.int .u64 (k.waits[j].c : Int), .int .i64 k.waits[j].t] 93)).drew).grown hg2 (fun q hq hlt => by have := Option.some.inj hq; omega), ?_, Or.inr ⟨b, _, by omega, rfl, hput, hb⟩⟩
  exact (hg2.block S (by omega) (fun e => by have := Option.some.inj e; omega)).trans ((Below.heap_alloc _ _ _ hSV).trans hst)
theorem In1.made {S : Nat} {W wr : World} {k : Kp} (h : In1 S W k (.map none) 0 wr) :
    But (fun q => q = S) W ((wr.alloc (.map #[] 0)).setCell ⟨S, 4, none⟩ (.map (some wr.heap.size))) ∧ KeptAt ((wr.alloc (.map #[] 0)).setCell ⟨S, 4, none⟩ (.map (some wr.heap.size))) S k (.map (some wr.heap.size)) (.map none) ∧
      PMap ((wr.alloc (.map #[] 0)).setCell ⟨S, 4, none⟩ (.map (some wr.heap.size))) wr.heap.size 0 (.map []) (k.waits.take 0) := by
  have hSr := lt_of_heap h.st
  refine ⟨(h.bt.alloc _).setCell _ _ (fun _ => rfl), K.heap_setCell_at ((Below.heap_alloc _ _ _ hSr).trans h.st) _, ?_⟩
  exact PMap.empty ((World.ownsMap_made wr Tryd.prog 25 PtrE).setCell (a := ⟨S, 4, none⟩) (fun e => by have : wr.heap.size = S := e; omega) _)
theorem In2.step {S : Nat} {W V w2 : World} {k : Kp} {ag : List Ag} {pv : Value} {b j : Nat} {D : DataW Unit} (hj : j < ag.length) (hu : Cs.AUp ag) (hbt : But (fun q => q = S) W V) (hst : KeptAt V S k pv (.map (some b))) (hmp : Pend1 S V pv k.waits.length k.waits) (hP : RMap V b j D (ag.take j)) (hb : S < b) (hbW : W.heap.size ≤ b)
    (hown2 : w2.ownsMap Tryd.prog 25 NumE b (j + 1) (D.put (key ag[j].s) (.lit (key ag[j].n)))) (hg2 : V.grownBy w2 (some b)) (hne : ∀ p, pv = .map (some p) → p ≠ b) :
    In2 S W k ag pv (.map (some b)) (j + 1) w2 := by
  have hSV := lt_of_heap hst
  have hput := hP.put hown2 (mem_take_more hj) (aup_take_ne hu hj)
  have hbtV : But (fun q => q = b) V w2 := (But.refl _ V).grown hg2 (fun q hq _ => (Option.some.inj hq).symm)
  refine ⟨hbt.grown hg2 (fun q hq hlt => by have := Option.some.inj hq; omega), (hg2.block S hSV (fun e => by have := Option.some.inj e; omega)).trans hst, ?_, Or.inr ⟨b, _, by omega, rfl, hput, hb⟩, fun p r hp hr => by cases hr; exact hne p hp⟩
  rcases hmp with ⟨h1, h2⟩ | ⟨p, Dp, h1, h2, h3, h4⟩
  · exact Or.inl ⟨h1, h2⟩
  · exact Or.inr ⟨p, Dp, h1, h2, h3.but hbtV (hne p h2) (fun q cs f e => by subst e; exact not93_map hP.own cs f), h4⟩
theorem In2.made {S : Nat} {W wr : World} {k : Kp} {ag : List Ag} {pv : Value} (h : In2 S W k ag pv (.map none) 0 wr) :
    But (fun q => q = S) W ((wr.alloc (.map #[] 0)).setCell ⟨S, 5, none⟩ (.map (some wr.heap.size))) ∧ KeptAt ((wr.alloc (.map #[] 0)).setCell ⟨S, 5, none⟩ (.map (some wr.heap.size))) S k pv (.map (some wr.heap.size)) ∧
      RMap ((wr.alloc (.map #[] 0)).setCell ⟨S, 5, none⟩ (.map (some wr.heap.size))) wr.heap.size 0 (.map []) (ag.take 0) ∧ Pend1 S ((wr.alloc (.map #[] 0)).setCell ⟨S, 5, none⟩ (.map (some wr.heap.size))) pv k.waits.length k.waits ∧ ∀ p, pv = .map (some p) → p ≠ wr.heap.size := by
  have hSr := lt_of_heap h.st
  have hb : But (fun q => q = S) wr ((wr.alloc (.map #[] 0)).setCell ⟨S, 5, none⟩ (.map (some wr.heap.size))) := ((But.refl _ wr).alloc _).setCell _ _ (fun _ => rfl)
  refine ⟨(h.bt.alloc _).setCell _ _ (fun _ => rfl), K.heap_setCell_at ((Below.heap_alloc _ _ _ hSr).trans h.st) _, ?_, ?_, ?_⟩
  · exact RMap.empty ((World.ownsMap_made wr Tryd.prog 25 NumE).setCell (a := ⟨S, 5, none⟩) (fun e => by have : wr.heap.size = S := e; omega) _)
  · rcases h.mp with ⟨h1, h2⟩ | ⟨p, Dp, h1, h2, h3, h4⟩
    · exact Or.inl ⟨h1, h2⟩
    · exact Or.inr ⟨p, Dp, h1, h2, h3.but hb (by omega) (fun q cs f e => by subst e; exact h.st.not93 cs f), h4⟩
  · intro p hp
    rcases h.mp with ⟨h1, h2⟩ | ⟨p', Dp, h1, h2, h3, h4⟩
    · rw [h2] at hp; cases hp
    · rw [h2] at hp; cases hp
      have := h3.own.lt
      omega

/-- what inner leaves -/
def InPost (k : Kp) (ag : List Ag) (w : World) (e : Ending) (w' : World) : Prop :=
  ∃ S pv rv, e = .returned (.pointer (some ⟨S, 0, none⟩)) ∧ w.heap.size < S ∧ KeptAt w' S k pv rv ∧ Pend1 S w' pv k.waits.length k.waits ∧ Redel1 S w' rv ag.length ag ∧ Below w.heap.size w w'

set_option maxHeartbeats 4000000 in
set_option maxRecDepth 100000 in
theorem inner_any (k : Kp) (ag : List Ag) (A B : Option Addr) (cap capB : Nat) (w : World) (hW : WAt w A k.waits) (hB : AAt w B ag) (hl : k.waits.length ≤ 12) (hla : ag.length ≤ 12) (hu : Cs.Up k.waits) (hua : Cs.AUp ag)
    (hs : ∀ x ∈ k.waits, x.s < 18446744073709551616) (hsa : ∀ x ∈ ag, x.s < 18446744073709551616 ∧ x.n < 18446744073709551616) :
    Calls Tryd.prog 23 #[keepV k A cap (.slice B ag.length capB)] w (InPost k ag w) := by
  obtain ⟨n, hn⟩ : ∃ n, k.waits.length = n := ⟨_, rfl⟩
  obtain ⟨m, hm⟩ : ∃ m, ag.length = m := ⟨_, rfl⟩
  have HN := Lib.hid (And.intro hn hm)
  have HU := Lib.hid (And.intro hu (And.intro hua (And.intro hs hsa)))
  have HW := Lib.hid (And.intro hW hB)
  unfold keepV
  rw [hn] at hl ⊢
  rw [hm] at hla ⊢
  clear hn hm hu hua hs hsa hW hB
  go_enter Tryd.func23, Tryd.ntmps23
  go_wp2_with fail
  have e1 : (w.alloc (.cells #[.int .u64 (k.dc : Int), .int .u64 (k.ds : Int), .int .u64 (k.fc : Int), .int .u64 (k.fs : Int), .slice A n cap, .slice B m capB] 31)).heap.size = w.heap.size + 1 := by simp
  have x1 : ((w.alloc (.cells #[.int .u64 (k.dc : Int), .int .u64 (k.ds : Int), .int .u64 (k.fc : Int), .int .u64 (k.fs : Int), .slice A n cap, .slice B m capB] 31)).alloc (.cells #[.int .u64 (k.dc : Int), .int .u64 (k.ds : Int), .int .u64 (k.fc : Int), .int .u64 (k.fs : Int), .map none, .map none] 82)).heap[w.heap.size]? = some (.cells #[.int .u64 (k.dc : Int), .int .u64 (k.ds : Int), .int .u64 (k.fc : Int), .int .u64 (k.fs : Int), .slice A n cap, .slice B m capB] 31 (0, 0)) := (Below.heap_alloc _ _ _ (by rw [e1]; omega)).trans (K.heap_alloc_at _ _)
  have x2 : KeptAt ((w.alloc (.cells #[.int .u64 (k.dc : Int), .int .u64 (k.ds : Int), .int .u64 (k.fc : Int), .int .u64 (k.fs : Int), .slice A n cap, .slice B m capB] 31)).alloc (.cells #[.int .u64 (k.dc : Int), .int .u64 (k.ds : Int), .int .u64 (k.fc : Int), .int .u64 (k.fs : Int), .map none, .map none] 82)) (w.heap.size + 1) k (.map none) (.map none) := by
    have := K.heap_alloc_at (w.alloc (.cells #[.int .u64 (k.dc : Int), .int .u64 (k.ds : Int), .int .u64 (k.fc : Int), .int .u64 (k.fs : Int), .slice A n cap, .slice B m capB] 31)) (.cells #[.int .u64 (k.dc : Int), .int .u64 (k.ds : Int), .int .u64 (k.fc : Int), .int .u64 (k.fs : Int), .map none, .map none] 82)
    rw [e1] at this
    exact this
  have x3 : ((w.alloc (.cells #[.int .u64 (k.dc : Int), .int .u64 (k.ds : Int), .int .u64 (k.fc : Int), .int .u64 (k.fs : Int), .slice A n cap, .slice B m capB] 31)).alloc (.cells #[.int .u64 (k.dc : Int), .int .u64 (k.ds : Int), .int .u64 (k.fc : Int), .int .u64 (k.fs : Int), .map none, .map none] 82)).heap.size = w.heap.size + 2 := by simp
  have x4 : Below w.heap.size w ((w.alloc (.cells #[.int .u64 (k.dc : Int), .int .u64 (k.ds : Int), .int .u64 (k.fc : Int), .int .u64 (k.fs : Int), .slice A n cap, .slice B m capB] 31)).alloc (.cells #[.int .u64 (k.dc : Int), .int .u64 (k.ds : Int), .int .u64 (k.fc : Int), .int .u64 (k.fs : Int), .map none, .map none] 82)) := ((Below.refl _ w).alloc (Nat.le_refl _) _).alloc (by rw [e1]; omega) _
  generalize ((w.alloc (.cells #[.int .u64 (k.dc : Int), .int .u64 (k.ds : Int), .int .u64 (k.fc : Int), .int .u64 (k.fs : Int), .slice A n cap, .slice B m capB] 31)).alloc (.cells #[.int .u64 (k.dc : Int), .int .u64 (k.ds : Int), .int .u64 (k.fc : Int), .int .u64 (k.fs : Int), .map none, .map none] 82)) = W at x1 x2 x3 x4 ⊢
  have hbW : But (fun _ => False) w W := But.of x4
  have HX := Lib.hid (And.intro x1 (And.intro x2 (And.intro x3 (And.intro x4 (And.intro (HW.out.1.but hbW (fun _ _ h => h)) (HW.out.2.but hbW (fun _ _ h => h)))))))
  have hAn : ∀ a, A = some a → 0 < n → a.block < w.heap.size := fun a ha h => by
    obtain ⟨b, o, h1, h2, _⟩ := HW.out.1 (fun e => by rw [← HN.out.1, e] at h; simp at h)
    rw [ha] at h1; cases h1; exact h2
  have hBn : ∀ a, B = some a → 0 < m → a.block < w.heap.size := fun a ha h => by
    obtain ⟨b, o, h1, h2, _⟩ := HW.out.2 (fun e => by rw [← HN.out.2, e] at h; simp at h)
    rw [ha] at h1; cases h1; exact h2
  have HAB := Lib.hid (And.intro hAn hBn)
  clear x1 x2 x3 x4 hbW e1 hAn hBn
  generalize hSS : w.heap.size + 1 = S at HX ⊢
  have HSS := Lib.hid hSS
  clear hSS
  have hmm := @run_makeMap Tryd.prog
  have hnl : ∀ (w : World) (r : Option Nat), (binOp .eql 79 (.map r) (.map none)).run Tryd.prog w = .ok (.bool r.isNone) w := fun w r => run_eql_map_nil w _ _ _ r Tryd.underlying79
  have hnl2 : ∀ (w : World) (r : Option Nat), (binOp .eql 80 (.map r) (.map none)).run Tryd.prog w = .ok (.bool r.isNone) w := fun w r => run_eql_map_nil w _ _ _ r Tryd.underlying80
  go_loopw [4] (fun i wr => ∃ (j : Nat) (pv : Value), j ≤ n ∧ i = .int .i64 (j : Int) ∧ Hid (In1 S W k pv j wr)) (fun i _ => n - (intOf i).toNat)
  case atStart => exact ⟨0, .map none, by omega, rfl, Lib.hid ⟨But.refl _ W, HX.out.2.1, Or.inl ⟨rfl, rfl⟩⟩⟩
  case round =>
    obtain ⟨j, pv, hj, rfl, HI⟩ := hrel
    have hbx := (HI.out.bt.block _ (lt_of_heap HX.out.1) (by have := HSS.out; omega)).trans HX.out.1
    have k4 : wr.cell? ⟨w.heap.size, 4, none⟩ = some (.slice A n cap) := cell_of hbx rfl
    have k5 : wr.cell? ⟨w.heap.size, 5, none⟩ = some (.slice B m capB) := cell_of hbx rfl
    have s4 : wr.cell? ⟨S, 4, none⟩ = some pv := HI.out.st.c4
    by_cases hlt : j < n
    · have hjl : j < k.waits.length := by rw [HN.out.1]; exact hlt
      have hbt := HI.out.bt
      have hbWr : But (fun q => q = S) w wr := (But.of HX.out.2.2.2.1).trans (hbt)
      obtain ⟨b1, o1, rfl, a0, a1, a2⟩ := (HX.out.2.2.2.2.1.but HI.out.bt (fun a ha e => by have := HAB.out.1 a ha (by omega); have := HSS.out; omega)).get hjl
      have hb1 := HAB.out.1 _ rfl (by omega)
      obtain ⟨x, hxe⟩ : ∃ x, k.waits[j] = x := ⟨_, rfl⟩
      have hxs : x.s < 18446744073709551616 := by rw [← hxe]; exact HU.out.2.2.1 _ (List.getElem_mem hjl)
      rw [hxe] at a0 a1 a2
      have hj0 : (0 : Int) ≤ (j : Int) := by omega
      have hj1 : (j : Int) < (n : Int) := by omega
      have hxq : k.waits[j]? = some x := List.getElem?_eq_some_iff.2 ⟨hjl, hxe⟩
      have HJ := Lib.hid (And.intro hlt (And.intro hxq (And.intro hb1 hxs)))
      clear hlt hjl hxe hb1 hbt hbWr hxq hxs
      rcases HI.out.mp with ⟨hz, hpv⟩ | ⟨b, D, hz, hpv, hP, hSb⟩
      · subst hpv
        subst hz
        simp only [Nat.zero_mul, Nat.add_zero] at a0 a1 a2
        have hM := HI.out.made
        have f4 : ∀ o, (wr.alloc o).frozen? ⟨S, 4, none⟩ = false := fun o => thawed ((Below.heap_alloc _ _ _ (lt_of_heap HI.out.st)).trans HI.out.st) 4
        have s4' := past s4
        have hbV : But (fun q => q = S) wr ((wr.alloc (.map #[] 0)).setCell ⟨S, 4, none⟩ (.map (some wr.heap.size))) := ((But.refl _ wr).alloc _).setCell _ _ (fun _ => rfl)
        have HV := Lib.hid (And.intro hM hbV)
        clear hM hbV
        go_upto_region 7 with fail
        have hM := HV.out.1
        have hbV := HV.out.2
        clear s4' f4
        generalize hWb : wr.heap.size = b at hM hbV ⊢
        have hbs : S < b := by rw [← hWb]; exact lt_of_heap HI.out.st
        have hbs2 : W.heap.size ≤ b := by rw [← hWb]; exact HI.out.bt.size
        have HWB := Lib.hid (And.intro hWb (And.intro hbs hbs2))
        clear HV hWb hbs hbs2
        generalize ((wr.alloc (.map #[] 0)).setCell ⟨S, 4, none⟩ (.map (some b))) = V at hM hbV ⊢
        obtain ⟨hbt, hst, hP⟩ := hM
        obtain ⟨D, hD⟩ : ∃ D : DataW Unit, (.map [] : DataW Unit) = D := ⟨_, rfl⟩
        rw [hD] at hP
        clear hD s4
        have hk4 : V.cell? ⟨w.heap.size, 4, none⟩ = some (.slice (some ⟨b1, o1, none⟩) n cap) := cell_of ((hbt.block _ (lt_of_heap HX.out.1) (by have := HSS.out; omega)).trans HX.out.1) rfl
        have hs4 : V.cell? ⟨S, 4, none⟩ = some (.map (some b)) := hst.c4
        have hmv : ∀ i v, wr.cell? ⟨b1, i, none⟩ = some v → V.cell? ⟨b1, i, none⟩ = some v := fun i v hv => by
          have h1 := World.block_lt_of_cell? _ _ hv
          have h3 : b1 < w.heap.size := HJ.out.2.2.1
          have e := hbV.block b1 h1 (by have := HSS.out; omega)
          simp only [World.cell?, e] at hv ⊢
          exact hv
        have v0 := hmv _ _ a0
        have v1 := hmv _ _ a1
        have v2 := hmv _ _ a2
        have p4 := past hk4
        have p5 := past hs4
        have p0 := past v0
        obtain ⟨w2, hrun, hown2, hg2⟩ := ((hP.own.alloc (.cells #[.int .u64 (x.c : Int), .int .i64 x.t] 93)).drew).update K25 Tryd.underlying79 (by unfold maxLen; omega) (key_of HJ.out.2.2.2) (val := .pointer (some ⟨V.heap.size, 0, none⟩)) (d := .lit (.int .u64 (V.heap.size : Int))) (ps := []) rfl
        have HG := Lib.hid (And.intro hbt (And.intro hst (And.intro hP (And.intro hown2 hg2))))
        clear hbt hst hP hown2 hg2 hmv a0 a1 a2 k4 k5
        go_wp2_with fail
        go_region
        clear hk4 hs4 v0 v1 v2 p4 p5 p0 hrun
        obtain ⟨gbt, gst, gP, gown, gg⟩ := HG.out
        obtain ⟨hlt, hxq, _, _⟩ := HJ.out
        obtain ⟨hjl, hxe⟩ := List.getElem?_eq_some_iff.1 hxq
        subst hxe
        have HF := Lib.hid (In1.step hjl HU.out.1 gbt gst gP HWB.out.2.1 HWB.out.2.2 gown gg)
        clear gbt gst gP gown gg HG
        go_wp2_with fail
        exact ⟨⟨0 + 1, .map (some b), by omega, by go_num, HF⟩, by simp [intOf]; omega⟩
      · subst hpv
        have hbt := HI.out.bt
        have hst := HI.out.st
        have hbs2 : W.heap.size ≤ b := by
          rcases Nat.lt_or_ge b W.heap.size with h | h
          · have := HX.out.2.2.1; have := HSS.out; omega
          · exact h
        have hbV : But (fun q => q = S) wr wr := But.refl _ _
        have HWB := Lib.hid (And.intro rfl (And.intro hSb hbs2) : wr.heap.size = wr.heap.size ∧ S < b ∧ W.heap.size ≤ b)
        clear hbs2 hSb
        have HZ := Lib.hid hz
        clear hz
        go_upto_region 7 with fail
        clear s4
        obtain ⟨V, hV⟩ : ∃ V, wr = V := ⟨_, rfl⟩
        rw [hV] at hP hbt hst ⊢
        have hbV : But (fun q => q = S) wr V := by rw [← hV]; exact But.refl _ _
        have HV0 := Lib.hid hV
        clear hV
        have hk4 : V.cell? ⟨w.heap.size, 4, none⟩ = some (.slice (some ⟨b1, o1, none⟩) n cap) := cell_of ((hbt.block _ (lt_of_heap HX.out.1) (by have := HSS.out; omega)).trans HX.out.1) rfl
        have hs4 : V.cell? ⟨S, 4, none⟩ = some (.map (some b)) := hst.c4
        have hmv : ∀ i v, wr.cell? ⟨b1, i, none⟩ = some v → V.cell? ⟨b1, i, none⟩ = some v := fun i v hv => by
          have h1 := World.block_lt_of_cell? _ _ hv
          have h3 : b1 < w.heap.size := HJ.out.2.2.1
          have e := hbV.block b1 h1 (by have := HSS.out; omega)
          simp only [World.cell?, e] at hv ⊢
          exact hv
        have v0 := hmv _ _ a0
        have v1 := hmv _ _ a1
        have v2 := hmv _ _ a2
        have p4 := past hk4
        have p5 := past hs4
        have p0 := past v0
        obtain ⟨w2, hrun, hown2, hg2⟩ := ((hP.own.alloc (.cells #[.int .u64 (x.c : Int), .int .i64 x.t] 93)).drew).update K25 Tryd.underlying79 (by unfold maxLen; omega) (key_of HJ.out.2.2.2) (val := .pointer (some ⟨V.heap.size, 0, none⟩)) (d := .lit (.int .u64 (V.heap.size : Int))) (ps := []) rfl
        have HG := Lib.hid (And.intro hbt (And.intro hst (And.intro hP (And.intro hown2 hg2))))
        clear hbt hst hP hown2 hg2 hmv a0 a1 a2 k4 k5
        go_wp2_with fail
        go_region
        clear hk4 hs4 v0 v1 v2 p4 p5 p0 hrun
        obtain ⟨gbt, gst, gP, gown, gg⟩ := HG.out
        obtain ⟨hlt, hxq, _, _⟩ := HJ.out
        obtain ⟨hjl, hxe⟩ := List.getElem?_eq_some_iff.1 hxq
        subst hxe
        have HF := Lib.hid (In1.step hjl HU.out.1 gbt gst gP HWB.out.2.1 HWB.out.2.2 gown gg)
        clear gbt gst gP gown gg HG
        go_wp2_with fail
        exact ⟨⟨j + 1, .map (some b), by omega, by go_num, HF⟩, by simp [intOf]; omega⟩
    · obtain rfl : j = n := by omega
      have hmp := HI.out.mp
      rw [← HN.out.1] at hmp
      have HI2 : Hid (In2 S W k ag pv (.map none) 0 wr) := Lib.hid ⟨HI.out.bt, HI.out.st, hmp, Or.inl ⟨rfl, rfl⟩, fun p r _ hr => by cases hr⟩
      clear hmp hlt hj s4
      go_wp2_with fail
      clear k4 k5 hbx
      go_loopw [5] (fun i wr => ∃ (q : Nat) (rv : Value), q ≤ m ∧ i = .int .i64 (q : Int) ∧ Hid (In2 S W k ag pv rv q wr)) (fun i _ => m - (intOf i).toNat)
      case atStart => exact ⟨0, .map none, by omega, rfl, HI2⟩
      case round =>
        obtain ⟨q, rv, hq, rfl, HI3⟩ := hrel
        have hbx := (HI3.out.bt.block _ (lt_of_heap HX.out.1) (by have := HSS.out; omega)).trans HX.out.1
        have k5 : wr.cell? ⟨w.heap.size, 5, none⟩ = some (.slice B m capB) := cell_of hbx rfl
        have s5 : wr.cell? ⟨S, 5, none⟩ = some rv := HI3.out.st.c5
        by_cases hlt : q < m
        · have hjl : q < ag.length := by rw [HN.out.2]; exact hlt
          obtain ⟨b1, o1, rfl, a0, a1⟩ := (HX.out.2.2.2.2.2.but HI3.out.bt (fun a ha e => by have := HAB.out.2 a ha (by omega); have := HSS.out; omega)).get hjl
          have hb1 := HAB.out.2 _ rfl (by omega)
          obtain ⟨x, hxe⟩ : ∃ x, ag[q] = x := ⟨_, rfl⟩
          have hxs : x.s < 18446744073709551616 ∧ x.n < 18446744073709551616 := by rw [← hxe]; exact HU.out.2.2.2 _ (List.getElem_mem hjl)
          rw [hxe] at a0 a1
          have hj0 : (0 : Int) ≤ (q : Int) := by omega
          have hj1 : (q : Int) < (m : Int) := by omega
          have hxq : ag[q]? = some x := List.getElem?_eq_some_iff.2 ⟨hjl, hxe⟩
          have HJ := Lib.hid (And.intro hlt (And.intro hxq (And.intro hb1 hxs)))
          clear hlt hjl hxe hb1 hxq hxs
          rcases HI3.out.rd with ⟨hz, hrv⟩ | ⟨b, D, hz, hrv, hP, hSb⟩
          · subst hrv
            subst hz
            simp only [Nat.zero_mul, Nat.add_zero] at a0 a1
            have hM := HI3.out.made
            have f5 : ∀ o, (wr.alloc o).frozen? ⟨S, 5, none⟩ = false := fun o => thawed ((Below.heap_alloc _ _ _ (lt_of_heap HI3.out.st)).trans HI3.out.st) 5
            have s5' := past s5
            have hbV : But (fun q => q = S) wr ((wr.alloc (.map #[] 0)).setCell ⟨S, 5, none⟩ (.map (some wr.heap.size))) := ((But.refl _ wr).alloc _).setCell _ _ (fun _ => rfl)
            have HV := Lib.hid (And.intro hM hbV)
            clear hM hbV
            go_upto_region 13 with fail
            have hM := HV.out.1
            have hbV := HV.out.2
            clear s5' f5
            generalize hWb : wr.heap.size = b at hM hbV ⊢
            have hbs : S < b := by rw [← hWb]; exact lt_of_heap HI3.out.st
            have hbs2 : W.heap.size ≤ b := by rw [← hWb]; exact HI3.out.bt.size
            have HWB := Lib.hid (And.intro hWb (And.intro hbs hbs2))
            clear HV hWb hbs hbs2
            generalize ((wr.alloc (.map #[] 0)).setCell ⟨S, 5, none⟩ (.map (some b))) = V at hM hbV ⊢
            obtain ⟨hbt, hst, hP, hmp, hne⟩ := hM
            obtain ⟨D, hD⟩ : ∃ D : DataW Unit, (.map [] : DataW Unit) = D := ⟨_, rfl⟩
            rw [hD] at hP
            clear hD s5
            have hk5 : V.cell? ⟨w.heap.size, 5, none⟩ = some (.slice (some ⟨b1, o1, none⟩) m capB) := cell_of ((hbt.block _ (lt_of_heap HX.out.1) (by have := HSS.out; omega)).trans HX.out.1) rfl
            have hs5 : V.cell? ⟨S, 5, none⟩ = some (.map (some b)) := hst.c5
            have hmv : ∀ i v, wr.cell? ⟨b1, i, none⟩ = some v → V.cell? ⟨b1, i, none⟩ = some v := fun i v hv => by
              have h1 := World.block_lt_of_cell? _ _ hv
              have h3 : b1 < w.heap.size := HJ.out.2.2.1
              have e := hbV.block b1 h1 (by have := HSS.out; omega)
              simp only [World.cell?, e] at hv ⊢
              exact hv
            have v0 := hmv _ _ a0
            have v1 := hmv _ _ a1
            obtain ⟨w2, hrun, hown2, hg2⟩ := (hP.own.drew).update K25 Tryd.underlying80 (by unfold maxLen; omega) (key_of HJ.out.2.2.2.1) (numE HJ.out.2.2.2.2)
            have HG := Lib.hid (And.intro hbt (And.intro hst (And.intro hmp (And.intro hP (And.intro hne (And.intro hown2 hg2))))))
            clear hbt hst hmp hP hne hown2 hg2 hmv a0 a1 k5
            go_wp2_with fail
            go_region
            clear hk5 hs5 v0 v1 hrun
            obtain ⟨gbt, gst, gmp, gP, gne, gown, gg⟩ := HG.out
            obtain ⟨hlt, hxq, _, _⟩ := HJ.out
            obtain ⟨hjl, hxe⟩ := List.getElem?_eq_some_iff.1 hxq
            subst hxe
            have HF := Lib.hid (In2.step hjl HU.out.2.1 gbt gst gmp gP HWB.out.2.1 HWB.out.2.2 gown ⟨gg.os, gg.tape, gg.output, gg.size, gg.block⟩ gne)
            clear gbt gst gmp gP gne gown gg HG
            go_wp2_with fail
            exact ⟨⟨0 + 1, .map (some b), by omega, by go_num, HF⟩, by simp [intOf]; omega⟩
          · subst hrv
            have hbt := HI3.out.bt
            have hst := HI3.out.st
            have hmp := HI3.out.mp
            have hne : ∀ p, pv = .map (some p) → p ≠ b := fun p hp => HI3.out.ne p b hp rfl
            have hbs2 : W.heap.size ≤ b := by
              rcases Nat.lt_or_ge b W.heap.size with h | h
              · have := HX.out.2.2.1; have := HSS.out; omega
              · exact h
            have HWB := Lib.hid (And.intro rfl (And.intro hSb hbs2) : wr.heap.size = wr.heap.size ∧ S < b ∧ W.heap.size ≤ b)
            clear hbs2 hSb
            have HZ := Lib.hid hz
            clear hz
            go_upto_region 13 with fail
            clear s5
            obtain ⟨V, hV⟩ : ∃ V, wr = V := ⟨_, rfl⟩
            rw [hV] at hP hbt hst hmp ⊢
            have hbV : But (fun q => q = S) wr V := by rw [← hV]; exact But.refl _ _
            have HV0 := Lib.hid hV
            clear hV
            have hk5 : V.cell? ⟨w.heap.size, 5, none⟩ = some (.slice (some ⟨b1, o1, none⟩) m capB) := cell_of ((hbt.block _ (lt_of_heap HX.out.1) (by have := HSS.out; omega)).trans HX.out.1) rfl
            have hs5 : V.cell? ⟨S, 5, none⟩ = some (.map (some b)) := hst.c5
            have hmv : ∀ i v, wr.cell? ⟨b1, i, none⟩ = some v → V.cell? ⟨b1, i, none⟩ = some v := fun i v hv => by
              have h1 := World.block_lt_of_cell? _ _ hv
              have h3 : b1 < w.heap.size := HJ.out.2.2.1
              have e := hbV.block b1 h1 (by have := HSS.out; omega)
              simp only [World.cell?, e] at hv ⊢
              exact hv
            have v0 := hmv _ _ a0
            have v1 := hmv _ _ a1
            obtain ⟨w2, hrun, hown2, hg2⟩ := (hP.own.drew).update K25 Tryd.underlying80 (by unfold maxLen; omega) (key_of HJ.out.2.2.2.1) (numE HJ.out.2.2.2.2)
            have HG := Lib.hid (And.intro hbt (And.intro hst (And.intro hmp (And.intro hP (And.intro hne (And.intro hown2 hg2))))))
            clear hbt hst hmp hP hne hown2 hg2 hmv a0 a1 k5
            go_wp2_with fail
            go_region
            clear hk5 hs5 v0 v1 hrun
            obtain ⟨gbt, gst, gmp, gP, gne, gown, gg⟩ := HG.out
            obtain ⟨hlt, hxq, _, _⟩ := HJ.out
            obtain ⟨hjl, hxe⟩ := List.getElem?_eq_some_iff.1 hxq
            subst hxe
            have HF := Lib.hid (In2.step hjl HU.out.2.1 gbt gst gmp gP HWB.out.2.1 HWB.out.2.2 gown ⟨gg.os, gg.tape, gg.output, gg.size, gg.block⟩ gne)
            clear gbt gst gmp gP gne gown gg HG
            go_wp2_with fail
            exact ⟨⟨q + 1, .map (some b), by omega, by go_num, HF⟩, by simp [intOf]; omega⟩
        · obtain rfl : q = m := by omega
          have HB2 := Lib.hid (But.below HX.out.2.2.2.1 HI3.out.bt (fun j e => by have := HSS.out; omega) (by have := HX.out.2.2.1; omega))
          have hrd := HI3.out.rd
          rw [← HN.out.2] at hrd
          have HRD := Lib.hid (And.intro HI3.out.st (And.intro HI3.out.mp (And.intro hrd (by have := HSS.out; omega : w.heap.size < S))))
          clear hrd hlt hq
          go_wp2_with fail
          go_ret
          exact ⟨S, pv, rv, rfl, HRD.out.2.2.2, HRD.out.1, HRD.out.2.1, HRD.out.2.2.1, HB2.out⟩
end Go.Proofs.YtchphfdoneckeaaDoor
