/-
  Consumer, with one deed that gives the store a state.
-/
import Derived.Test.YtchphfdoneckeaaDoorUp
import Derived.Test.YtchphfdoneckeaaDoorSb
import Derived.Test.YtchphfdoneckeaaDoorSe
namespace Go.Proofs.YtchphfdoneckeaaDoor
open Go.RowKit
open Cs (Wt Kp Ag)

/-- a state, its two slices -/
structure KFits (k : Kp) (ag : List Ag) : Prop where
  snd : Cs.Sound k
  up : Cs.AUp ag
  l : k.waits.length ≤ 12
  la : ag.length ≤ 12
  wa : k.waits = [] → ag = []
  s : ∀ x ∈ k.waits, x.s < 18446744073709551616
  sa : ∀ x ∈ ag, x.s < 18446744073709551616 ∧ x.n < 18446744073709551616
def keepRow (k : Kp) (A : Option Addr) (cap : Nat) (B : Option Addr) (m capB : Nat) : List Value := [.int .u64 (k.dc : Int), .int .u64 (k.ds : Int), .int .u64 (k.fc : Int), .int .u64 (k.fs : Int), .slice A k.waits.length cap, .slice B m capB]
def upRow (k : Kp) (A : Option Addr) (cap : Nat) (B : Option Addr) (m capB : Nat) : Array Value := #[.int .i64 3, .int .u64 0, .int .u64 0, .int .u64 0, .int .i64 0, .int .u64 (k.dc : Int), .int .u64 (k.ds : Int), .int .u64 (k.fc : Int), .int .u64 (k.fs : Int), .slice A k.waits.length cap, .slice B m capB]
theorem load_up {w : World} {b o : Nat} (k : Kp) (A : Option Addr) (cap : Nat) (B : Option Addr) (m capB : Nat) (h : ∀ (j : Nat) (v : Value), (upRow k A cap B m capB)[j]? = some v → w.cell? ⟨b, o + j, none⟩ = some v) : (Instr.loadAt 37 (.pointer (some ⟨b, o, none⟩))).run Tryd.prog w = .ok (.agg (upRow k A cap B m capB)) w := by
  have hl : (loadCells ⟨b, o, none⟩ (upRow k A cap B m capB).toList.length).run Tryd.prog w = .ok (upRow k A cap B m capB).toList.toArray w :=
    run_loadCells_list (P := Tryd.prog) w ⟨b, o, none⟩ (upRow k A cap B m capB).toList (fun j v hv => by
      have hadd : (⟨b, o, none⟩ : Addr).add j = ⟨b, o + j, none⟩ := by unfold Addr.add; split <;> simp_all
      rw [hadd]
      exact h j v (by simpa using hv))
  have e : (upRow k A cap B m capB).size = 11 := rfl
  simp only [Array.length_toList, Array.toArray_toList, e] at hl
  simp [Instr.loadAt, Instr.sureAddr, loadVar, Sem.run_bind, Tryd.isAgg37, Tryd.sizeOf37, hl]
theorem load_both {w : World} {b o : Nat} (k : Kp) (A : Option Addr) (cap : Nat) (B : Option Addr) (m capB : Nat) (h : ∀ (j : Nat) (v : Value), (keepRow k A cap B m capB)[j]? = some v → w.cell? ⟨b, o + j, none⟩ = some v) : (Instr.loadAt 31 (.pointer (some ⟨b, o, none⟩))).run Tryd.prog w = .ok (keepV k A cap (.slice B m capB)) w := by
  have hl : (loadCells ⟨b, o, none⟩ (keepRow k A cap B m capB).length).run Tryd.prog w = .ok (keepRow k A cap B m capB).toArray w :=
    run_loadCells_list (P := Tryd.prog) w ⟨b, o, none⟩ (keepRow k A cap B m capB) (fun j v hv => by
      have hadd : (⟨b, o, none⟩ : Addr).add j = ⟨b, o + j, none⟩ := by unfold Addr.add; split <;> simp_all
      rw [hadd]
      exact h j v hv)
  have e : (keepRow k A cap B m capB).length = 6 := rfl
  rw [e] at hl
  simp [Instr.loadAt, Instr.sureAddr, loadVar, Sem.run_bind, Tryd.isAgg31, Tryd.sizeOf31, hl, keepV, keepRow]
theorem keep_all (sb n : Nat) (pv rv : Value) (k : Kp) (ag : List Ag) (w : World) (hK : KeptAt w sb k pv rv) (hP : Pend w pv n k.waits) (hQ : Redel w rv n ag) (h0 : ag = [] → rv = .map none) (hf : KFits k ag) :
    Calls Tryd.prog 19 #[.pointer (some ⟨sb, 0, none⟩)] w (KeepBoth k ag w) := by
  by_cases ha : ag = []
  · obtain rfl := h0 ha
    subst ha
    refine (keep_any sb n pv k w hK hP ⟨hf.snd.up, hf.s⟩ hf.l).mono ?_
    rintro e w' ⟨A, cap, rfl, h1, h2, _⟩
    exact ⟨A, cap, none, 0, rfl, h1, fun h => absurd rfl h, h2⟩
  · rcases hQ with ⟨_, h2⟩ | ⟨rb, E, rfl, hq⟩
    · exact absurd h2 ha
    · rcases hP with ⟨_, h2⟩ | ⟨b, D, rfl, hp⟩
      · exact absurd (hf.wa h2) ha
      · exact keep_both sb b rb n D E k ag w hK hp hq ⟨hf.snd.up, hf.s⟩ hf.l hf.up hf.la

set_option maxRecDepth 100000 in
theorem act_up (m : Nat) (k : Kp) (ag : List Ag) (A B : Option Addr) (cap capB : Nat) (ack : Int) (w : World) (hR : Row w m 0 Cs.k0 (.map none) (.map none) ack) (hW : WAt w A k.waits) (hB : AAt w B ag) (hf : KFits k ag) :
    Calls Tryd.prog 17 #[.pointer (some ⟨m, 0, none⟩), .agg (upRow k A cap B ag.length capB)] w (UpPost m 12 k ag ack w) := by
  have hb0 : But (fun _ => False) w (w.alloc (.cells (upRow k A cap B ag.length capB) 37)) := (But.refl _ w).alloc _
  have h23 := inner_any k ag A B cap capB _ (hW.but hb0 (fun _ _ h => h)) (hB.but hb0 (fun _ _ h => h)) hf.l hf.la hf.snd.up hf.up hf.s hf.sa
  have HF := Lib.hid hf
  have HB := Lib.hid (And.intro hb0 (hR.but hb0 (fun h => h)))
  unfold keepV at h23
  clear hR hW hB hf hb0
  unfold upRow at h23 HB ⊢
  obtain ⟨n, hn⟩ : ∃ n, k.waits.length = n := ⟨_, rfl⟩
  obtain ⟨q, hq⟩ : ∃ q, ag.length = q := ⟨_, rfl⟩
  rw [hn, hq] at h23 HB ⊢
  clear hn hq
  go_enter Tryd.func17, Tryd.ntmps17
  go_wp2_with fail
  refine h23.mono ?_
  rintro e w1 ⟨S, pv, rv, rfl, _, hK, hP, hQ, hb⟩
  have hb1 : But (fun _ => False) w w1 := HB.out.1.trans (But.of hb)
  have h27 := update_any m S k ag pv rv ack w1 (HB.out.2.but (But.of hb) (S := fun _ => False) (fun h => h)) hK hP hQ HF.out.snd HF.out.l HF.out.la HF.out.wa HF.out.up HF.out.s HF.out.sa
  have H1 := Lib.hid hb1
  clear hK hP hQ hb hb1 h23
  go_wp2_with fail
  refine h27.mono ?_
  rintro e w2 ⟨rfl, pv2, rv2, h1, h2, h3, h4, h5⟩
  have H2 := Lib.hid (And.intro h1 (And.intro h2 (And.intro h3 (And.intro h4 h5))))
  clear h1 h2 h3 h4 h5 h27
  go_wp2_with fail
  go_ret
  exact ⟨rfl, pv2, rv2, H2.out.1, H2.out.2.1, H2.out.2.2.1, H2.out.2.2.2.1, (H1.out.mono (fun _ _ h => h.elim)).trans H2.out.2.2.2.2⟩
def ConOne (k : Kp) (ag : List Ag) (w : World) (e : Ending) (w' : World) : Prop :=
  ∃ gk ck gs cs A cap B capB, e = .returned (.tuple #[.slice (some ⟨gk, 0, none⟩) 1 ck, .slice (some ⟨gs, 0, none⟩) 1 cs]) ∧ w'.cell? ⟨gk, 0, none⟩ = some (.int .i64 0) ∧
    (∀ (j : Nat) (v : Value), (keepRow k A cap B ag.length capB)[j]? = some v → w'.cell? ⟨gs, j, none⟩ = some v) ∧ WAt w' A k.waits ∧ AAt w' B ag ∧ Below w.heap.size w w'

set_option maxHeartbeats 2000000 in
set_option maxRecDepth 100000 in
theorem consumer_one (b o cap0 : Nat) (ack : Int) (k : Kp) (ag : List Ag) (A B : Option Addr) (cap capB : Nat) (w : World) (hbl : b < w.heap.size) (hcs : ∀ (j : Nat) (v : Value), (upRow k A cap B ag.length capB)[j]? = some v → w.cell? ⟨b, o + j, none⟩ = some v)
    (hW : WAt w A k.waits) (hB : AAt w B ag) (hf : KFits k ag) : Calls Tryd.prog 9 #[.int .i64 ack, .slice (some ⟨b, o, none⟩) 1 cap0] w (ConOne k ag w) := by
  have HA := Lib.hid (And.intro hcs (And.intro hW (And.intro hB hf)))
  clear hcs hW hB hf
  have h15 := new_any ack w
  go_enter Tryd.func9, Tryd.ntmps9
  go_wp2_with fail
  refine h15.mono ?_
  rintro e w1 ⟨m, rfl, hm, hR, hb⟩
  obtain ⟨i3, hi3, hz3, hs3, hy3⟩ := info3
  obtain ⟨i31, hi31, hz31, hs31, hy31⟩ := info31
  have HI := Lib.hid (And.intro hi3 (And.intro hz3 (And.intro hs3 (And.intro hy3 (And.intro hi31 (And.intro hz31 (And.intro hs31 hy31)))))))
  have hb1 : But (fun _ => False) w w1 := But.of hb
  have hld : (Instr.loadAt 37 (.pointer (some ⟨b, o, none⟩))).run Tryd.prog w1 = .ok (.agg (upRow k A cap B ag.length capB)) w1 := load_up k A cap B ag.length capB (fun q v hv => (hb.cell (p := ⟨b, o + q, none⟩) hbl).trans (HA.out.1 q v hv))
  have h17 := act_up m k ag A B cap capB ack w1 hR (HA.out.2.1.but hb1 (fun _ _ h => h)) (HA.out.2.2.1.but hb1 (fun _ _ h => h)) HA.out.2.2.2
  have H1 := Lib.hid (And.intro hm (And.intro hR hb))
  clear hm hR hb hb1 h15 hi3 hz3 hs3 hy3 hi31 hz31 hs31 hy31
  go_wp2_with fail
  refine wp_loop_rounds 2 ?_
  rw [rounds_succ]
  go_wp2_with (refine wpList_load_eq rfl 37 (.tmp 23) rfl _ _ rfl hld ?_)
  refine h17.mono ?_
  rintro e w2 ⟨rfl, pv, rv, hR2, hP2, hQ2, h02, hb2⟩
  have H2 := Lib.hid (And.intro hR2 (And.intro hP2 (And.intro hQ2 (And.intro h02 hb2))))
  have h16 := one_nil w2
  clear hR2 hP2 hQ2 h02 hb2 h17 hld
  go_wp2_with fail
  refine h16.mono ?_
  rintro e w2' ⟨rfl, rfl⟩
  clear h16
  go_wp2_with (at_builtin; refine wpList_append_lies _ rfl _ _ _ rfl w.heap.size 3 i3 (.int .i64 0) 1 8 Tryd.underlying22 HI.out.1 HI.out.2.1 HI.out.2.2.1 HI.out.2.2.2.1 rfl (by omega) (.slice none 0 0) 0 [] rfl (World.ownsRow_nil _ _ _ _) ⟨w2'.heap.size, 0, none⟩ 1 1 [.int .i64 0] rfl rfl (K.cells_one _ _ _) (by intro u hu; simp at hu; subst hu; rfl) (by omega) (by unfold maxLen; omega) (by omega) (by have := H1.out.2.2.size; have := H2.out.2.2.2.2.size; simp; omega) _ rfl ?_; intro g3 cp3 w3 hown3 hgrow3 hat3 hlt3; have HF3 := Lib.hid (And.intro hown3 hgrow3); clear hown3 hgrow3 hat3 hlt3)
  have hb3 : But (fun _ => False) w2' w3 := ((But.refl _ w2').alloc _).grown HF3.out.2 (fun k hk => by cases hk)
  have hR3 := H2.out.1.but hb3 (fun h => h)
  have h18 := state_all m 12 pv rv k ag ack w3 hR3 (H2.out.2.1.but hb3 (no_far _ _)) (H2.out.2.2.1.but hb3 (fun _ _ h => h)) H2.out.2.2.2.1 HA.out.2.2.2.wa (by omega) ⟨HA.out.2.2.2.snd.up, HA.out.2.2.2.s⟩ HA.out.2.2.2.up HA.out.2.2.2.sa
  have hk3 : w3.cell? ⟨g3, 0, none⟩ = some (.int .i64 0) := by
    obtain ⟨g, cp, e, _, _, _, hc⟩ := own_slice HF3.out.1 (by omega)
    cases e
    exact hc 0 _ rfl
  have hgm : g3 ≠ m := by
    obtain ⟨_, cur, hcur⟩ := own_blk HF3.out.1 (g := g3) rfl
    rintro rfl
    rw [show w3.heap[g3]? = _ from hR3] at hcur
    injection hcur with hcur
    injection hcur with _ h _
    exact absurd h (by decide)
  have hB3 : Below w.heap.size w w3 := But.below (But.below H1.out.2.2 H2.out.2.2.2.2 (fun j e => by rw [e]; exact H1.out.1) H1.out.2.2.size) hb3 (fun _ h => h.elim) (by have := H1.out.2.2.size; have := H2.out.2.2.2.2.size; omega)
  have H3 := Lib.hid (And.intro hk3 (And.intro hgm (And.intro hB3 H1.out.1)))
  clear hb3 hR3 hk3 hgm hB3
  refine h18.mono ?_
  rintro e w4 ⟨sb, pv4, rv4, rfl, hK4, hP4, hQ4, h04, hb4⟩
  have h19 := keep_all sb 12 pv4 rv4 k ag w4 hK4 hP4 hQ4 h04 HA.out.2.2.2
  have H4 := Lib.hid hb4
  clear hK4 hP4 hQ4 h04 hb4 h18
  go_wp2_with fail
  refine h19.mono ?_
  rintro e w5 ⟨A5, cap5, B5, capB5, rfl, hW5, hB5, hb5⟩
  have hnw6 : (w5.alloc (.cells #[.int .u64 (k.dc : Int), .int .u64 (k.ds : Int), .int .u64 (k.fc : Int), .int .u64 (k.fs : Int), .slice A5 k.waits.length cap5, .slice B5 ag.length capB5] 31)).heap[w5.heap.size]? = _ := K.heap_alloc_at _ _
  have HNW := Lib.hid hnw6
  have H5 := Lib.hid (And.intro hW5 (And.intro hB5 hb5))
  clear hW5 hB5 hb5 hnw6 h19
  unfold keepV
  have hsz : w.heap.size ≤ w5.heap.size := by
    have := H3.out.2.2.1.size
    have := H4.out.size
    have := H5.out.2.2.size
    omega
  go_wp2_with (at_builtin; refine wpList_append_lies _ rfl _ _ _ rfl w.heap.size 31 i31 (.agg #[.int .u64 0, .int .u64 0, .int .u64 0, .int .u64 0, .slice none 0 0, .slice none 0 0]) 6 80 Tryd.underlying38 HI.out.2.2.2.2.1 HI.out.2.2.2.2.2.1 HI.out.2.2.2.2.2.2.1 HI.out.2.2.2.2.2.2.2 rfl (by omega) (.slice none 0 0) 0 [] rfl (World.ownsRow_nil _ _ _ _) ⟨w5.heap.size, 0, none⟩ 1 1 (keepRow k A5 cap5 B5 ag.length capB5) rfl rfl (World.news_of_block HNW.out) (by simp [keepRow, Value.oneCell']) (by omega) (by unfold maxLen; omega) (by omega) (by simp; omega) _ rfl ?_; intro g6 cp6 w6 hown6 hgrow6 hat6 hlt6; have HF6 := Lib.hid (And.intro hown6 hgrow6); clear hown6 hgrow6 hat6 hlt6)
  have hb6 : But (fun _ => False) w5 w6 := ((But.refl _ w5).alloc _).grown HF6.out.2 (fun k hk => by cases hk)
  have hsc : ∀ (j : Nat) (v : Value), (keepRow k A5 cap5 B5 ag.length capB5)[j]? = some v → w6.cell? ⟨g6, j, none⟩ = some v := by
    obtain ⟨g, cp, e, _, _, _, hc⟩ := own_slice HF6.out.1 (by omega)
    cases e
    exact hc
  have hmove : ∀ (x y : World) (S : Nat → Prop), But S x y → ∀ g v, ¬ S g → x.cell? ⟨g, 0, none⟩ = some v → y.cell? ⟨g, 0, none⟩ = some v := fun x y S h g v hS hv => by
    have h1 := World.block_lt_of_cell? _ _ hv
    have e := h.block g h1 hS
    simp only [World.cell?, e] at hv ⊢
    exact hv
  have hk6 : w6.cell? ⟨g3, 0, none⟩ = some (.int .i64 0) := hmove _ _ _ hb6 _ _ (fun h => h) (hmove _ _ _ (But.of (S := fun _ => False) H5.out.2.2) _ _ (fun h => h) (hmove _ _ _ H4.out _ _ H3.out.2.1 H3.out.1))
  have hB6 : Below w.heap.size w w6 := But.below ((But.below H3.out.2.2.1 H4.out (fun j e => by rw [e]; exact H3.out.2.2.2) H3.out.2.2.1.size).trans (H5.out.2.2.mono (by have := H3.out.2.2.1.size; have := H4.out.size; omega))) hb6 (fun _ h => h.elim) hsz
  have H6 := Lib.hid (And.intro hk6 (And.intro hsc (And.intro (H5.out.1.but hb6 (fun _ _ h => h)) (And.intro (H5.out.2.1.but hb6 (fun _ _ h => h)) hB6))))
  clear hb6 hsc hmove hk6 hB6 hsz
  rw [rounds_succ]
  go_wp2_with fail
  go_ret2
  exact ⟨g3, cp3, g6, cp6, A5, cap5, B5, capB5, rfl, H6.out.1, H6.out.2.1, H6.out.2.2.1, H6.out.2.2.2.1, H6.out.2.2.2.2⟩
end Go.Proofs.YtchphfdoneckeaaDoor
