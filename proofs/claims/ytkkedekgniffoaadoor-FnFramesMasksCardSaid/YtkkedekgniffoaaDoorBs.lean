/-
  What stands while frames are read: the rows, the pieces that are left, the data that have been handed out.
-/
import Derived.Test.YtkkedekgniffoaaDoorCt
namespace Go.Proofs.YtkkedekgniffoaaDoor
open Go.RowKit

/-- a piece of data that has been handed out -/
structure Ch where
  g : Nat
  o : Nat
  d : List UInt8
def ChV (ch : Ch) (v : Value) : Prop := ∃ q c, v = .slice (some ⟨ch.g, q, none⟩) ch.d.length c ∧ (0 < ch.d.length → q = ch.o)
def ChB (w : World) (ch : Ch) : Prop := ∃ B, ByteRow w ch.g B ∧ ∀ j c, ch.d[j]? = some c → B[ch.o + j]? = some c
def OutV : List Ch → List Value → Prop
  | [], [] => True
  | ch :: D, v :: vs => ChV ch v ∧ OutV D vs
  | _, _ => False
theorem OutV.snoc {ch : Ch} {v : Value} (hv : ChV ch v) : ∀ {D : List Ch} {vs : List Value}, OutV D vs → OutV (D ++ [ch]) (vs ++ [v])
  | [], [], _ => ⟨hv, trivial⟩
  | _ :: _, _ :: _, h => ⟨h.1, OutV.snoc hv h.2⟩
  | [], _ :: _, h => h.elim
  | _ :: _, [], h => h.elim
theorem OutV.at : ∀ {D : List Ch} {vs : List Value}, OutV D vs → D.length = vs.length ∧ ∀ (j : Nat) (ch : Ch), D[j]? = some ch → ∃ v, vs[j]? = some v ∧ ChV ch v
  | [], [], _ => ⟨rfl, fun j ch h => by simp at h⟩
  | ch :: D, v :: vs, h => ⟨by simp [(OutV.at h.2).1], fun j ch' hj => by
      cases j with
      | zero => simp at hj; subst hj; exact ⟨v, rfl, h.1⟩
      | succ j => exact (OutV.at h.2).2 j ch' (by simpa using hj)⟩
  | [], _ :: _, h => h.elim
  | _ :: _, [], h => h.elim
theorem ByteRow.agree {w : World} {g j : Nat} {B B' : List UInt8} {c c' : UInt8} (h : ByteRow w g B) (h' : ByteRow w g B') (hc : B[j]? = some c) (hc' : B'[j]? = some c') : c = c' := by
  have h1 := h.cell hc
  rw [h'.cell hc'] at h1
  injection h1 with h1
  injection h1 with _ h1
  exact UInt8.toNat_inj.mp (by omega)
theorem ChB.step {w w' : World} {S : Nat → Prop} {ch : Ch} {g x : Nat} {B B2 : List UInt8} (h : ChB w ch) (hb : But S w w') (hB : ByteRow w g B) (hB2 : ByteRow w' g B2) (hx : x ≤ B.length) (he : ∀ j, j < x → B2[j]? = B[j]?)
    (hf : ch.g < g ∨ (ch.g = g ∧ ch.o + ch.d.length ≤ x)) (hS : ∀ B', ByteRow w ch.g B' → ch.g ≠ g → ¬ S ch.g) : ChB w' ch := by
  obtain ⟨B', h1, h2⟩ := h
  by_cases hg : ch.g = g
  · have hl : ch.o + ch.d.length ≤ x := by rcases hf with h | h <;> omega
    rw [hg] at h1
    refine ⟨B2, by rw [hg]; exact hB2, fun j c hj => ?_⟩
    have hjl := (List.getElem?_eq_some_iff.1 hj).1
    rw [he _ (by omega)]
    have h3 := h2 j c hj
    have h4 : B[ch.o + j]? = some (B[ch.o + j]'(by omega)) := List.getElem?_eq_getElem _
    rw [h4, hB.agree h1 h4 h3]
  · exact ⟨B', h1.but hb (hS B' h1 hg), h2⟩

def OAt (w : World) (O : Nat) (ov : Value) : Prop := w.heap[O]? = some (.cells #[ov] 43 (0, 0))
theorem OAt.at {w w' : World} {O : Nat} {ov : Value} (h : OAt w O ov) (e : w'.heap[O]? = w.heap[O]?) : OAt w' O ov := e.trans h
theorem OAt.c {w : World} {O : Nat} {ov : Value} (h : OAt w O ov) : w.cell? ⟨O, 0, none⟩ = some ov := by unfold OAt at h; simp [World.cell?, h]
theorem OAt.fz {w : World} {O : Nat} {ov : Value} (h : OAt w O ov) (i : Nat) : w.frozen? ⟨O, i, none⟩ = false := by unfold OAt at h; simp [World.frozen?, h]
theorem OAt.lt {w : World} {O : Nat} {ov : Value} (h : OAt w O ov) : O < w.heap.size := (Array.getElem?_eq_some_iff.1 h).1

def ClPost (B1 O n : Nat) (ov v : Value) (outs : List Value) (w : World) (e : Ending) (w' : World) : Prop :=
  e = .returned .nilIface ∧ ∃ ov', OAt w' O ov' ∧ w'.ownsRow B1 50 1 ov' (n + 1) (outs ++ [v]) ∧ But (fun k => k = O ∨ ov.ownBlock = some k) w w'

theorem info50 : (Tryd.prog.info? 50).map (fun i => (i.zero, i.size, i.bytes)) = some (some (.slice none 0 0), 1, 24) := by kernel_rfl

set_option maxHeartbeats 2000000 in
set_option maxRecDepth 100000 in
theorem clo_any (B1 O n : Nat) (ov : Value) (A : Option Addr) (vm vc : Nat) (b1 b2 : Bool) (outs : List Value) (w : World) (hO : OAt w O ov) (hown : w.ownsRow B1 50 1 ov n outs) (hn : n ≤ 2000000) (hOB : O < B1) (hB : B1 ≤ w.heap.size) :
    Calls Tryd.prog 22 #[.slice A vm vc, .bool b1, .bool b2, .pointer (some ⟨O, 0, none⟩)] w (ClPost B1 O n ov (.slice A vm vc) outs w) := by
  obtain ⟨i0, hi0, hz0, hz1, hz2⟩ := info_parts info50
  have HO := Lib.hid hO
  have HW := Lib.hid hown
  have o0 := hO.c
  have f0 := hO.fz 0
  clear hO hown
  go_enter Tryd.func22, Tryd.ntmps22
  go_wp2_with (at_builtin; refine Hid.out ?_)
  refine Lib.hid ?_
  refine wpList_append_lies _ rfl _ _ _ rfl B1 50 i0 _ 1 24 Tryd.underlying43 hi0 hz0 hz1 hz2 rfl (by omega) ov n outs rfl (HW.out.alloc _) ⟨w.heap.size, 0, none⟩ 1 1 [.slice A vm vc] rfl rfl (World.news_of_block (cs := #[.slice A vm vc]) (t := 50) (fr := (0, 0)) (K.heap_alloc_at _ _)) (by simp [Value.oneCell']) (by omega) (by unfold maxLen; omega) (by omega) (by simp; omega) (w.heap.size + 1) (by simp) ?_
  intro g3 c3 w3 hown3 hgrow3 hat3 hlt3
  have hne : some O ≠ ov.ownBlock := fun e => by have := (own_blk HW.out e.symm).1; omega
  have hOl := HO.out.lt
  have hO3 : OAt w3 O ov := HO.out.at ((hgrow3.block O (by simp; omega) hne).trans (Below.heap_alloc _ _ _ hOl))
  have o3 := hO3.c
  have f3 := hO3.fz 0
  have H3 := Lib.hid (And.intro hO3 (And.intro hown3 hgrow3))
  clear hO3 hown3 hgrow3
  go_wp2_with fail
  go_ret
  refine ⟨rfl, _, K.heap_setCell_at H3.out.1 _, own_move H3.out.2.1 fun g hg => Below.heap_setCell _ _ _ _ ?_, ?_⟩
  · have := (own_blk H3.out.2.1 hg).1
    show g ≠ O
    omega
  · have hb1 : But (fun k => k = O ∨ ov.ownBlock = some k) w (w.alloc (.cells #[.slice A vm vc] 50)) := But.of ((Below.refl w.heap.size w).alloc (Nat.le_refl _) _)
    have hb2 : But (fun k => k = O ∨ ov.ownBlock = some k) (w.alloc (.cells #[.slice A vm vc] 50)) w3 := ⟨H3.out.2.2.os, H3.out.2.2.tape, H3.out.2.2.output, H3.out.2.2.size, fun k hk hs => H3.out.2.2.block k hk (fun e => hs (Or.inr e.symm))⟩
    exact (hb1.trans hb2).setCell _ _ (Or.inl rfl)

/-- the numbers that do not turn -/
structure Nm where
  W0 : World
  B1 : Nat
  C : Nat
  R : Nat
  P : Nat
  L : Nat
  O : Nat
  np : Nat
  cp : Nat
  fl : Nat
structure Nm.Ok (E : Nm) : Prop where
  p0 : E.W0.heap.size ≤ E.P
  l0 : E.W0.heap.size ≤ E.L
  r0 : E.W0.heap.size ≤ E.R
  q0 : E.W0.heap.size ≤ E.C
  o0 : E.W0.heap.size ≤ E.O
  b0 : E.W0.heap.size ≤ E.B1
  p1 : E.P < E.B1
  l1 : E.L < E.B1
  r1 : E.R < E.B1
  q1 : E.C < E.B1
  o1 : E.O < E.B1
  n : E.np ≤ 1000000
  c : E.np ≤ E.cp
  t : Tabs E.W0
  e : ∃ te ve, E.W0.cell? ⟨1, 0, none⟩ = some (.iface te ve)

structure Bs (E : Nm) (g o m : Nat) (x : World) (pos a : Nat) (F : List Pc) (r : RdV) (kv : Value) (nk : Nat) (B : List UInt8) (D : List Ch) (outs : List Value) (ov : Value) : Prop where
  cn : Cn x E.P E.L E.np E.cp a F
  rd : RdAt x E.R r
  ca : CAt x E.C kv 0
  ko : KOwn x E.B1 kv nk
  b : ByteRow x g B
  om : o + m = B.length
  w0 : Below E.W0.heap.size E.W0 x
  oa : OAt x E.O ov
  oo : x.ownsRow E.B1 50 1 ov D.length outs
  ov : OutV D outs
  cb : ∀ ch ∈ D, ChB x ch
  fr : ∀ ch ∈ D, ch.g < g ∨ (ch.g = g ∧ ch.o + ch.d.length ≤ o + pos)
  fb : ∀ y ∈ F, y.g < E.B1 ∧ g < y.g
  pl : pos ≤ m
  bs : E.B1 ≤ x.heap.size
  gb : g < E.B1
  g0 : E.W0.heap.size ≤ g
  so : (F.map Pc.g).Pairwise (· < ·)
  fl : F.length ≤ E.fl

theorem Bs.tags {E : Nm} {g o m : Nat} {x : World} {pos a : Nat} {F : List Pc} {r : RdV} {kv : Value} {nk : Nat} {B : List UInt8} {D : List Ch} {outs : List Value} {ov : Value} (h : Bs E g o m x pos a F r kv nk B D outs ov) :
    E.P ≠ E.L ∧ E.P ≠ E.R ∧ E.P ≠ E.C ∧ E.P ≠ E.O ∧ E.L ≠ E.R ∧ E.L ≠ E.C ∧ E.L ≠ E.O ∧ E.R ≠ E.C ∧ E.R ≠ E.O ∧ E.C ≠ E.O := by
  have hp := h.cn.p
  obtain ⟨cl, hl, _⟩ := h.cn.l
  have hr := h.rd
  obtain ⟨cc, hc, _⟩ := h.ca
  have ho := h.oa
  exact ⟨tag_ne hp hl (by decide), tag_ne hp hr (by decide), tag_ne hp hc (by decide), tag_ne hp ho (by decide), tag_ne hl hr (by decide), tag_ne hl hc (by decide), tag_ne hl ho (by decide), tag_ne hr hc (by decide), tag_ne hr ho (by decide), tag_ne hc ho (by decide)⟩
theorem Bs.byte {E : Nm} {g o m : Nat} {x : World} {pos a : Nat} {F : List Pc} {r : RdV} {kv : Value} {nk : Nat} {B : List UInt8} {D : List Ch} {outs : List Value} {ov : Value} (h : Bs E g o m x pos a F r kv nk B D outs ov)
    {q : Nat} {B' : List UInt8} (hq : ByteRow x q B') : q ≠ E.P ∧ q ≠ E.L ∧ q ≠ E.R ∧ q ≠ E.C ∧ q ≠ E.O := by
  obtain ⟨cl, hl, _⟩ := h.cn.l
  obtain ⟨cc, hc, _⟩ := h.ca
  exact ⟨hq.ne h.cn.p (by decide), hq.ne hl (by decide), hq.ne h.rd (by decide), hq.ne hc (by decide), hq.ne h.oa (by decide)⟩
theorem suffix_mem {F F' : List Pc} {i : Nat} (h : F'.map Pc.g = (F.map Pc.g).drop i) {y : Pc} (hy : y ∈ F') : ∃ z ∈ F, z.g = y.g := by
  have h1 : y.g ∈ (F.map Pc.g).drop i := by rw [← h]; exact List.mem_map_of_mem hy
  obtain ⟨z, hz, hzy⟩ := List.mem_map.1 (List.mem_of_mem_drop h1)
  exact ⟨z, hz, hzy⟩

theorem suffix_len {F F' : List Pc} {i : Nat} (h : F'.map Pc.g = (F.map Pc.g).drop i) : F'.length ≤ F.length := by
  have h2 := congrArg List.length h
  simp at h2
  omega

/-- the reader's row and the connection move on, nothing else turns -/
theorem Bs.mv {E : Nm} {g o m : Nat} {x x' : World} {pos pos' a a' i : Nat} {F F' : List Pc} {r r' : RdV} {kv : Value} {nk : Nat} {B : List UInt8} {D : List Ch} {outs : List Value} {ov : Value} (hE : E.Ok) (h : Bs E g o m x pos a F r kv nk B D outs ov)
    (hb : But (fun k => k = E.P ∨ k = E.L ∨ k = E.R) x x') (hr : RdAt x' E.R r') (hc : Cn x' E.P E.L E.np E.cp a' F') (hF : F'.map Pc.g = (F.map Pc.g).drop i) (hp : pos ≤ pos') (hm : pos' ≤ m) :
    Bs E g o m x' pos' a' F' r' kv nk B D outs ov := by
  obtain ⟨t1, t2, t3, t4, t5, t6, t7, t8, t9, t10⟩ := h.tags
  obtain ⟨g1, g2, g3, g4, g5⟩ := h.byte h.b
  have hB1 : ∀ k, E.B1 ≤ k → ¬ (k = E.P ∨ k = E.L ∨ k = E.R) := fun k hk hs => by
    have := hE.p1; have := hE.l1; have := hE.r1
    rcases hs with h | h | h <;> omega
  refine ⟨hc, hr, ?_, ?_, ?_, h.om, ?_, ?_, ?_, h.ov, ?_, ?_, ?_, hm, ?_, h.gb, h.g0, by rw [hF]; exact h.so.drop, Nat.le_trans (suffix_len hF) h.fl⟩
  · exact h.ca.at (hb.block _ h.ca.lt (fun hs => by rcases hs with h | h | h; exact t3 h.symm; exact t6 h.symm; exact t8 h.symm))
  · exact h.ko.move hb (fun k hk => by have := hE.p1; have := hE.l1; have := hE.r1; left; rcases hk with h | h | h <;> omega)
  · exact h.b.but hb (fun hs => by rcases hs with h | h | h; exact g1 h; exact g2 h; exact g3 h)
  · exact But.below h.w0 hb (fun k hk => by have := hE.p0; have := hE.l0; have := hE.r0; rcases hk with h | h | h <;> omega) h.w0.size
  · exact h.oa.at (hb.block _ h.oa.lt (fun hs => by rcases hs with h | h | h; exact t4 h.symm; exact t7 h.symm; exact t9 h.symm))
  · exact own_move h.oo fun q hq => hb.block q (own_lt h.oo hq) (hB1 q (own_blk h.oo hq).1)
  · intro ch hch
    obtain ⟨B', h1, h2⟩ := h.cb ch hch
    obtain ⟨q1, q2, q3, q4, q5⟩ := h.byte h1
    exact ⟨B', h1.but hb (fun hs => by rcases hs with h | h | h; exact q1 h; exact q2 h; exact q3 h), h2⟩
  · intro ch hch
    rcases h.fr ch hch with h1 | ⟨h1, h2⟩
    · exact Or.inl h1
    · exact Or.inr ⟨h1, by omega⟩
  · intro y hy
    obtain ⟨z, hz, hzy⟩ := suffix_mem hF hy
    rw [← hzy]; exact h.fb z hz
  · exact Nat.le_trans h.bs hb.size
/-- the reader's row alone turns -/
theorem Bs.rdw {E : Nm} {g o m : Nat} {x x' : World} {pos a : Nat} {F : List Pc} {r r' : RdV} {kv : Value} {nk : Nat} {B : List UInt8} {D : List Ch} {outs : List Value} {ov : Value} (hE : E.Ok) (h : Bs E g o m x pos a F r kv nk B D outs ov)
    (hb : But (fun k => k = E.R) x x') (hr : RdAt x' E.R r') : Bs E g o m x' pos a F r' kv nk B D outs ov := by
  obtain ⟨t1, t2, t3, t4, t5, t6, t7, t8, t9, t10⟩ := h.tags
  refine h.mv (i := 0) hE (hb.mono fun k _ hk => Or.inr (Or.inr hk)) hr (h.cn.but hb t2 t5 (fun y hy => ?_)) rfl (Nat.le_refl _) h.pl
  exact (h.byte (h.cn.f y hy).1).2.2.1
/-- nothing turns -/
theorem Bs.same {E : Nm} {g o m : Nat} {x x' : World} {pos a : Nat} {F : List Pc} {r : RdV} {kv : Value} {nk : Nat} {B : List UInt8} {D : List Ch} {outs : List Value} {ov : Value} (hE : E.Ok) (h : Bs E g o m x pos a F r kv nk B D outs ov)
    (hb : Below x.heap.size x x') : Bs E g o m x' pos a F r kv nk B D outs ov :=
  h.rdw hE (But.of hb) (h.rd.at (hb.block _ h.rd.lt))
theorem Bs.iface {E : Nm} {g o m : Nat} {x : World} {pos a : Nat} {F : List Pc} {r : RdV} {kv : Value} {nk : Nat} {B : List UInt8} {D : List Ch} {outs : List Value} {ov : Value} (h : Bs E g o m x pos a F r kv nk B D outs ov) {te : TypeId} {ve : Value}
    (he : E.W0.cell? ⟨1, 0, none⟩ = some (.iface te ve)) : x.cell? ⟨1, 0, none⟩ = some (.iface te ve) := (h.w0.cell (p := ⟨1, 0, none⟩) (World.block_lt_of_cell? _ _ he)).trans he
end Go.Proofs.YtkkedekgniffoaaDoor
