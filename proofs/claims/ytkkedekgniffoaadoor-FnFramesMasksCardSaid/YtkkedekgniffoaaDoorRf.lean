/-
  ReadFrames: the pieces of a connection, one behind the other.
-/
import Derived.Test.YtkkedekgniffoaaDoorLo
import Derived.Test.YtkkedekgniffoaaDoorZe
import Derived.Test.YtkkedekgniffoaaDoorIn
import Derived.Test.YtkkedekgniffoaaDoorJb
namespace Go.Proofs.YtkkedekgniffoaaDoor
open Go.RowKit

/-- what stands between two pieces -/
structure Bt (E : Nm) (x : World) (a : Nat) (F : List Pc) (r : RdV) (kv : Value) (nk : Nat) (D : List Ch) (outs : List Value) (ov : Value) : Prop where
  cn : Cn x E.P E.L E.np E.cp a F
  rd : RdAt x E.R r
  ca : CAt x E.C kv 0
  ko : KOwn x E.B1 kv nk
  w0 : Below E.W0.heap.size E.W0 x
  oa : OAt x E.O ov
  oo : x.ownsRow E.B1 50 1 ov D.length outs
  ov : OutV D outs
  cb : ∀ ch ∈ D, ChB x ch
  fr : ∀ ch ∈ D, ∀ y ∈ F, ch.g < y.g
  fb : ∀ y ∈ F, y.g < E.B1 ∧ E.W0.heap.size ≤ y.g
  bs : E.B1 ≤ x.heap.size
  so : (F.map Pc.g).Pairwise (· < ·)
def BInv (E : Nm) (M : Nat) (L0 : List UInt8) (x : World) (a : Nat) (F : List Pc) (r : RdV) (kv : Value) (nk : Nat) (D : List Ch) (outs : List Value) (ov : Value) : Prop :=
  Bt E x a F r kv nk D outs ov ∧ r.kp < 4 ∧ r.rem < 9223372036854775808 ∧ Fr.Reach Fr.start L0 (joinD D) (stOf r) (flat F) ∧ nk + (flat F).length ≤ M ∧ (D.length + (flat F).length + fsN r.fs ≤ M ∧ M ≤ 900000)
theorem Bt.tags {E : Nm} {x : World} {a : Nat} {F : List Pc} {r : RdV} {kv : Value} {nk : Nat} {D : List Ch} {outs : List Value} {ov : Value} (h : Bt E x a F r kv nk D outs ov) :
    E.L ≠ E.P ∧ E.R ≠ E.P ∧ E.C ≠ E.P ∧ E.O ≠ E.P := by
  have hp := h.cn.p
  obtain ⟨cl, hl, _⟩ := h.cn.l
  have hr := h.rd
  obtain ⟨cc, hc, _⟩ := h.ca
  have ho := h.oa
  exact ⟨tag_ne hl hp (by decide), tag_ne hr hp (by decide), tag_ne hc hp (by decide), tag_ne ho hp (by decide)⟩
/-- the connection's number of the next piece is written -/
theorem Bt.enter {E : Nm} {x : World} {a : Nat} {p : Pc} {F : List Pc} {r : RdV} {kv : Value} {nk : Nat} {D : List Ch} {outs : List Value} {ov : Value} (hE : E.Ok) (h : Bt E x a (p :: F) r kv nk D outs ov) (hfl : F.length ≤ E.fl) :
    Bt E (x.setCell ⟨E.P, 1, none⟩ (.int .i64 ((a + 1 : Nat) : Int))) (a + 1) F r kv nk D outs ov ∧ Bs E p.g p.o p.len (x.setCell ⟨E.P, 1, none⟩ (.int .i64 ((a + 1 : Nat) : Int))) 0 (a + 1) F r kv nk p.B D outs ov := by
  obtain ⟨t1, t2, t3, t4⟩ := h.tags
  have hb : But (fun k => k = E.P) x (x.setCell ⟨E.P, 1, none⟩ (.int .i64 ((a + 1 : Nat) : Int))) := (But.refl _ x).setCell ⟨E.P, 1, none⟩ _ rfl
  generalize hx : x.setCell ⟨E.P, 1, none⟩ (.int .i64 ((a + 1 : Nat) : Int)) = x' at hb ⊢
  have hbl : ∀ q, q < x.heap.size → q ≠ E.P → x'.heap[q]? = x.heap[q]? := fun q h1 h2 => hb.block q h1 h2
  have hso := List.pairwise_cons.1 h.so
  have hp := h.cn.f p List.mem_cons_self
  have hcn : Cn x' E.P E.L E.np E.cp (a + 1) F := by
    refine ⟨by rw [← hx]; exact h.cn.p.set (a + 1), ?_, by have := h.cn.n; simp at this; omega, fun y hy => ?_, h.cn.c⟩
    · have := (h.cn.l.drop 1).at (hbl E.L h.cn.ltL t1)
      simpa using this
    · have hy1 := h.cn.f y (List.mem_cons_of_mem _ hy)
      exact ⟨hy1.1.but hb (hy1.1.ne h.cn.p (by decide)), hy1.2⟩
  have hbt : Bt E x' (a + 1) F r kv nk D outs ov := by
    refine ⟨hcn, h.rd.at (hbl _ h.rd.lt t2), h.ca.at (hbl _ h.ca.lt t3), ?_, ?_, h.oa.at (hbl _ h.oa.lt t4), ?_, h.ov, ?_, fun ch hch y hy => h.fr ch hch y (List.mem_cons_of_mem _ hy), fun y hy => h.fb y (List.mem_cons_of_mem _ hy), Nat.le_trans h.bs hb.size, hso.2⟩
    · obtain ⟨xs, hk⟩ := h.ko
      exact ⟨xs, own_move hk fun g hg => hbl g (own_lt hk hg) (by have := (own_blk hk hg).1; have := hE.p1; omega)⟩
    · exact But.below h.w0 hb (fun k hk => by rw [hk]; exact hE.p0) h.w0.size
    · exact own_move h.oo fun g hg => hbl g (own_lt h.oo hg) (by have := (own_blk h.oo hg).1; have := hE.p1; omega)
    · intro ch hch
      obtain ⟨B', h1, h2⟩ := h.cb ch hch
      exact ⟨B', h1.but hb (h1.ne h.cn.p (by decide)), h2⟩
  refine ⟨hbt, ⟨hcn, hbt.rd, hbt.ca, hbt.ko, hp.1.but hb (hp.1.ne h.cn.p (by decide)), ?_, hbt.w0, hbt.oa, hbt.oo, h.ov, hbt.cb, fun ch hch => Or.inl (h.fr ch hch p List.mem_cons_self), fun y hy => ⟨(hbt.fb y hy).1, hso.1 _ (List.mem_map_of_mem hy)⟩, Nat.zero_le _, hbt.bs, (h.fb p List.mem_cons_self).1, (h.fb p List.mem_cons_self).2, hso.2, hfl⟩⟩
  have := hp.2.1
  unfold Pc.len
  omega
theorem BInv.next {E : Nm} {M : Nat} {L0 : List UInt8} {x : World} {a : Nat} {p : Pc} {F : List Pc} {r : RdV} {kv : Value} {nk : Nat} {D : List Ch} {outs : List Value} {ov : Value} (hE : E.Ok) (h : BInv E M L0 x a (p :: F) r kv nk D outs ov) (hfl : F.length ≤ E.fl) :
    Inv E p.g p.o p.len M L0 (x.setCell ⟨E.P, 1, none⟩ (.int .i64 ((a + 1 : Nat) : Int))) 0 (a + 1) F r kv nk p.B D outs ov := by
  obtain ⟨h1, h2, h3, h4, h5, h6⟩ := h
  have e : rest p.B (p.o + 0) F = flat (p :: F) := by rw [flat_cons]; rfl
  exact ⟨(h1.enter hE hfl).2, h2, h3, by rw [e]; exact h4, by rw [e]; exact h5, by rw [e]; exact h6⟩
theorem BInv.at {E : Nm} {M : Nat} {L0 : List UInt8} {x : World} {a : Nat} {F : List Pc} {r : RdV} {kv : Value} {nk : Nat} {D : List Ch} {outs : List Value} {ov : Value} (h : BInv E M L0 x a F r kv nk D outs ov) (n : Nat) : BInv { E with fl := n } M L0 x a F r kv nk D outs ov :=
  ⟨⟨h.1.cn, h.1.rd, h.1.ca, h.1.ko, h.1.w0, h.1.oa, h.1.oo, h.1.ov, h.1.cb, h.1.fr, h.1.fb, h.1.bs, h.1.so⟩, h.2⟩
/-- a piece without bytes -/
theorem BInv.skip {E : Nm} {M : Nat} {L0 : List UInt8} {x : World} {a : Nat} {p : Pc} {F : List Pc} {r : RdV} {kv : Value} {nk : Nat} {D : List Ch} {outs : List Value} {ov : Value} (hE : E.Ok) (h : BInv E M L0 x a (p :: F) r kv nk D outs ov) (hfl : F.length ≤ E.fl) (h0 : p.len = 0) :
    BInv E M L0 (x.setCell ⟨E.P, 1, none⟩ (.int .i64 ((a + 1 : Nat) : Int))) (a + 1) F r kv nk D outs ov := by
  obtain ⟨h1, h2, h3, h4, h5, h6⟩ := h
  have e : flat (p :: F) = flat F := by rw [flat_cons, List.length_eq_zero_iff.mp (p.left_length.trans h0), List.nil_append]
  rw [e] at h4 h5 h6
  exact ⟨(h1.enter hE hfl).1, h2, h3, h4, h5, h6⟩
/-- a piece has been read to its end -/
theorem Inv.leave {E : Nm} {g o m M : Nat} {L0 : List UInt8} {x : World} {a : Nat} {F : List Pc} {r : RdV} {kv : Value} {nk : Nat} {B : List UInt8} {D : List Ch} {outs : List Value} {ov : Value} (h : Inv E g o m M L0 x m a F r kv nk B D outs ov) :
    BInv E M L0 x a F r kv nk D outs ov := by
  obtain ⟨h1, h2, h3, h4, h5, h6⟩ := h
  have e : rest B (o + m) F = flat F := by
    unfold rest
    rw [List.drop_of_length_le (by rw [h1.om]; exact Nat.le_refl _), List.nil_append]
  rw [e] at h4 h5 h6
  refine ⟨⟨h1.cn, h1.rd, h1.ca, h1.ko, h1.w0, h1.oa, h1.oo, h1.ov, h1.cb, fun ch hch y hy => ?_, fun y hy => ⟨(h1.fb y hy).1, ?_⟩, h1.bs, h1.so⟩, h2, h3, h4, h5, h6⟩
  · have := (h1.fb y hy).2
    rcases h1.fr ch hch with h | ⟨h, _⟩ <;> omega
  · have := (h1.fb y hy).2
    have := h1.g0
    omega
theorem Bt.drewN {E : Nm} {x : World} {a : Nat} {F : List Pc} {r : RdV} {kv : Value} {nk : Nat} {D : List Ch} {outs : List Value} {ov : Value} (h : Bt E x a F r kv nk D outs ov) (n : Nat) : Bt E (x.drewN n) a F r kv nk D outs ov :=
  ⟨⟨h.cn.p, h.cn.l, h.cn.n, h.cn.f, h.cn.c⟩, h.rd, h.ca, h.ko, K.below_drewN h.w0 n, h.oa, h.oo, h.ov, h.cb, h.fr, h.fb, h.bs, h.so⟩
theorem BInv.drewN {E : Nm} {M : Nat} {L0 : List UInt8} {x : World} {a : Nat} {F : List Pc} {r : RdV} {kv : Value} {nk : Nat} {D : List Ch} {outs : List Value} {ov : Value} (h : BInv E M L0 x a F r kv nk D outs ov) (n : Nat) : BInv E M L0 (x.drewN n) a F r kv nk D outs ov :=
  ⟨h.1.drewN n, h.2⟩

theorem z61 : (Tryd.prog.info? 61).map (fun i => match i.zero with | some (.agg cs) => (cs[4128]?, cs[4129]?) | _ => (none, none)) = some (some (.slice none 0 0), some (.int .i64 0)) := by kernel_rfl
theorem zero61 : ∃ cs : Array Value, (∀ w, (zeroValue 61).run Tryd.prog w = .ok (.agg cs) w) ∧ cs[4128]? = some (.slice none 0 0) ∧ cs[4129]? = some (.int .i64 0) := by
  have h := z61
  cases hi : Tryd.prog.info? 61 with
  | none => rw [hi] at h; cases h
  | some i =>
    rw [hi] at h
    simp only [Option.map_some, Option.some.injEq] at h
    split at h
    · rename_i cs hz
      simp only [Prod.mk.injEq] at h
      exact ⟨cs, fun w => by simp [zeroValue, typeInfo, hi, hz], h.1, h.2⟩
    · simp at h

def r0 : RdV := ⟨0, false, false, 0, [0, 0, 0, 0], .slice none 0 0, .int .i64 0, .int .u64 0⟩
/-- how it ended -/
def EndIs (s : Fr.St) (l : List UInt8) (cl : Nat) (ev : Value) : Prop :=
  (ev = .nilIface ∧ cl = 0 ∧ Fr.fin s l = .fine) ∨ (∃ te ve, ev = .iface te ve ∧ ((Fr.fin s l = .err ∧ cl = 0) ∨ Fr.fin s l = .closed cl))
def RfPost (W0 : World) (L0 : List UInt8) (e : Ending) (w' : World) : Prop :=
  ∃ (B1 : Nat) (ov kv ev : Value) (cl : Nat) (D : List Ch) (outs : List Value) (s : Fr.St) (l : List UInt8), e = .returned (.tuple #[ov, kv, .int .i64 cl, ev]) ∧ Below W0.heap.size W0 w' ∧ w'.ownsRow B1 50 1 ov D.length outs ∧ OutV D outs ∧ (∀ ch ∈ D, ChB w' ch) ∧ D.length ≤ 900000 ∧
    Fr.Reach Fr.start L0 (joinD D) s l ∧ Fr.step s l = none ∧ EndIs s l cl ev

theorem start_bt {W0 w1 w2 : World} {cs : Array Value} {L np cp P M fl : Nat} {F : List Pc} (hz1 : cs[4128]? = some (.slice none 0 0)) (hz2 : cs[4129]? = some (.int .i64 0)) (hL : w1.ownsRow W0.heap.size 50 1 (.slice (some ⟨L, 0, none⟩) np cp) np (F.map pcV)) (_hnp : np ≤ 1000) (hb : Below W0.heap.size W0 w1)
    (hF : ∀ p ∈ F, p.o = 0 ∧ PcOk w1 p ∧ W0.heap.size ≤ p.g) (hso : (F.map Pc.g).Pairwise (· < ·)) (hC : w2.heap[w1.heap.size]? = some (.cells cs 61 (0, 0))) (hR : RdAt w2 (w1.heap.size + 1) { r0 with fs := true, ff := true }) (hB : Below w1.heap.size w1 w2) (hP : w2.heap.size = P) (hM : (flat F).length + 1 ≤ M) (hM9 : M ≤ 900000) :
    BInv ⟨W0, P + 2, w1.heap.size, w1.heap.size + 1, P, L, P + 1, np, cp, fl⟩ M (flat F) ((w2.alloc (.cells #[.slice (some ⟨L, 0, none⟩) np cp, .int .i64 0] 69)).alloc (.cells #[.slice none 0 0] 43)) 0 F { r0 with fs := true, ff := true } (.slice none 0 0) 0 [] [] (.slice none 0 0) ∧ L < w1.heap.size ∧ W0.heap.size ≤ L ∧ np ≤ cp ∧ F.length = np := by
  have hLb := own_blk hL (g := L) rfl
  have hLl := own_lt hL (g := L) rfl
  have hW := hb.size
  have hCl := (Array.getElem?_eq_some_iff.1 hC).1
  have hRl := hR.lt
  have s1 : (w2.alloc (.cells #[.slice (some ⟨L, 0, none⟩) np cp, .int .i64 0] 69)).heap.size = P + 1 := by simp [hP]
  have hold : ∀ q, q < w2.heap.size → ((w2.alloc (.cells #[.slice (some ⟨L, 0, none⟩) np cp, .int .i64 0] 69)).alloc (.cells #[.slice none 0 0] 43)).heap[q]? = w2.heap[q]? := fun q hq => (Below.heap_alloc _ _ _ (by omega)).trans (Below.heap_alloc _ _ _ hq)
  have hnewP : ((w2.alloc (.cells #[.slice (some ⟨L, 0, none⟩) np cp, .int .i64 0] 69)).alloc (.cells #[.slice none 0 0] 43)).heap[P]? = some (.cells #[.slice (some ⟨L, 0, none⟩) np cp, .int .i64 0] 69 (0, 0)) := by
    refine (Below.heap_alloc _ _ _ (by omega)).trans ?_
    rw [← hP]; exact K.heap_alloc_at _ _
  have hnewO : ((w2.alloc (.cells #[.slice (some ⟨L, 0, none⟩) np cp, .int .i64 0] 69)).alloc (.cells #[.slice none 0 0] 43)).heap[P + 1]? = some (.cells #[.slice none 0 0] 43 (0, 0)) := by
    have h := K.heap_alloc_at (w2.alloc (.cells #[.slice (some ⟨L, 0, none⟩) np cp, .int .i64 0] 69)) (.cells #[.slice none 0 0] 43)
    rw [s1] at h
    exact h
  have hb4 : Below W0.heap.size W0 ((w2.alloc (.cells #[.slice (some ⟨L, 0, none⟩) np cp, .int .i64 0] 69)).alloc (.cells #[.slice none 0 0] 43)) := ((hb.trans (hB.mono hW)).alloc (by omega) _).alloc (by omega) _
  have s2 : ((w2.alloc (.cells #[.slice (some ⟨L, 0, none⟩) np cp, .int .i64 0] 69)).alloc (.cells #[.slice none 0 0] 43)).heap.size = P + 2 := by simp [hP]
  generalize (w2.alloc (.cells #[.slice (some ⟨L, 0, none⟩) np cp, .int .i64 0] 69)).alloc (.cells #[.slice none 0 0] 43) = w4 at hold hnewP hnewO hb4 s2 ⊢
  have holdw : ∀ q, q < w1.heap.size → w4.heap[q]? = w1.heap[q]? := fun q hq => (hold q (by omega)).trans (hB.block q hq)
  obtain ⟨hl1, hl2⟩ := hL
  have hFl : F.length = np := by simpa using hl1
  rcases hl2 with ⟨h3, _⟩ | ⟨g', cap, cur, h3, hgb, hg, hcap, _, hs, ht⟩
  · cases h3
  · cases h3
    refine ⟨⟨⟨⟨?_, ?_, by rw [Nat.zero_add]; exact hFl, fun p hp => ?_, hcap⟩, hR.at (hold _ hRl), ⟨cs, (hold _ hCl).trans hC, hz1, hz2⟩, ⟨[], World.ownsRow_nil _ _ _ _⟩, hb4, hnewO, World.ownsRow_nil _ _ _ _, trivial, (fun ch hch => by cases hch), (fun ch hch => by cases hch), (fun y hy => ?_), (by simp only; rw [s2]; exact Nat.le_refl _), hso⟩, by decide, by decide, Fr.Reach.refl _ _, by omega, ?_⟩, hLl, hgb, hcap, hFl⟩
    · exact hnewP
    · refine ⟨cur, (holdw L hLl).trans hg, fun j p hj => ?_⟩
      have hjl := (List.getElem?_eq_some_iff.1 hj).1
      refine ⟨pcV p, ?_, ?_⟩
      · have h4 : (F.map pcV)[j]? = some (pcV p) := by simp [hj]
        rw [← ht, List.getElem?_take, if_pos (by omega)] at h4
        simpa using h4
      · have hp := hF p (List.mem_of_getElem? hj)
        refine ⟨0, ?_, fun _ => hp.1.symm⟩
        unfold pcV Pc.len
        rw [hp.1]; rfl
    · have hp1 := hF p hp
      exact ⟨hp1.2.1.1.at (holdw _ hp1.2.1.1.lt), hp1.2.1.2⟩
    · have hp1 := hF y hy
      have := hp1.2.1.1.lt
      exact ⟨by simp only; omega, hp1.2.2⟩
    · have : fsN ({ r0 with fs := true, ff := true } : RdV).fs = 0 := rfl
      rw [this]
      simp
      omega

/-- all has been read, without an error -/
theorem fine_post {E : Nm} {M a : Nat} {L0 : List UInt8} {x : World} {r : RdV} {kv : Value} {nk : Nat} {D : List Ch} {outs : List Value} {ov : Value} (h : BInv E M L0 x a [] r kv nk D outs ov) : RfPost E.W0 L0 (.returned (.tuple #[ov, kv, .int .i64 0, .nilIface])) x := by
  obtain ⟨h1, h2, h3, h4, h5, h6⟩ := h
  have hD : D.length ≤ 900000 := by omega
  have h4' : Fr.Reach Fr.start L0 (joinD D) (stOf r) [] := h4
  by_cases hs : (stOf r).fs = true
  · refine ⟨E.B1, ov, kv, .nilIface, 0, D, outs, stOf r, [], rfl, h1.w0, h1.oo, h1.ov, h1.cb, hD, h4', ?_, Or.inl ⟨rfl, rfl, ?_⟩⟩
    · simp [Fr.step, hs, Fr.head]
    · simp [Fr.fin, hs]
  · by_cases hr : (stOf r).rem = 0
    · have hst : Fr.step (stOf r) [] = some ([], { stOf r with fs := true }, []) := by unfold Fr.step; rw [if_neg hs, if_pos hr]
      have h7 := h4'.next hst
      rw [List.append_nil] at h7
      refine ⟨E.B1, ov, kv, .nilIface, 0, D, outs, _, [], rfl, h1.w0, h1.oo, h1.ov, h1.cb, hD, h7, ?_, Or.inl ⟨rfl, rfl, ?_⟩⟩
      · simp [Fr.step, Fr.head]
      · simp [Fr.fin]
    · refine ⟨E.B1, ov, kv, .nilIface, 0, D, outs, stOf r, [], rfl, h1.w0, h1.oo, h1.ov, h1.cb, hD, h4', ?_, Or.inl ⟨rfl, rfl, ?_⟩⟩
      · unfold Fr.step; rw [if_neg hs, if_neg hr]
      · unfold Fr.fin; rw [if_neg hs]
theorem err_post {E : Nm} {L0 : List UInt8} {x : World} {kv : Value} {cl : Nat} {D : List Ch} {outs : List Value} {ov : Value} {s : Fr.St} {l : List UInt8} (he : Eo E x kv cl D outs ov) (h1 : Fr.Reach Fr.start L0 (joinD D) s l) (h2 : Fr.step s l = none) (h3 : (Fr.fin s l = .err ∧ cl = 0) ∨ Fr.fin s l = .closed cl) (hD : D.length ≤ 900000) (te : TypeId) (ve : Value) (n : Nat) :
    RfPost E.W0 L0 (.returned (.tuple #[ov, kv, .int .i64 cl, .iface te ve])) (x.drewN n) :=
  ⟨E.B1, ov, kv, .iface te ve, cl, D, outs, s, l, rfl, K.below_drewN he.w0 n, he.oo, he.ov, he.cb, hD, h1, h2, Or.inr ⟨te, ve, rfl, h3⟩⟩

set_option maxHeartbeats 8000000 in
set_option maxRecDepth 100000 in
theorem readFrames_any (W0 w1 : World) (L np cp : Nat) (F : List Pc) (M : Nat) (hL : w1.ownsRow W0.heap.size 50 1 (.slice (some ⟨L, 0, none⟩) np cp) np (F.map pcV)) (hnp : np ≤ 1000) (hb : Below W0.heap.size W0 w1)
    (hF : ∀ p ∈ F, p.o = 0 ∧ PcOk w1 p ∧ W0.heap.size ≤ p.g) (hso : (F.map Pc.g).Pairwise (· < ·)) (hM : (flat F).length + 1 ≤ M) (hM9 : M ≤ 900000) (hT : Tabs W0) (hE : ∃ te ve, W0.cell? ⟨1, 0, none⟩ = some (.iface te ve)) :
    Calls Tryd.prog 18 #[.slice (some ⟨L, 0, none⟩) np cp] w1 (RfPost W0 (flat F)) := by
  obtain ⟨cs, hz, hz1, hz2⟩ := zero61
  have HZ := Lib.hid (And.intro hz1 hz2)
  have HA := Lib.hid (And.intro hL (And.intro hb (And.intro hF (And.intro hso (And.intro hT hE)))))
  have HM := Lib.hid hM
  clear hL hb hF hso hM hT hE hz1 hz2
  go_enter Tryd.func18, Tryd.ntmps18
  go_wp2_with fail
  have s1 : (w1.alloc (.cells cs 61)).heap.size = w1.heap.size + 1 := by simp
  have hC1 : ((w1.alloc (.cells cs 61)).alloc (.cells #[.int .u64 0, .bool false, .bool false, .bool false, .bool true, .int .u8 0, .int .u8 0, .int .u8 0, .int .u8 0, .int .u8 0, .slice none 0 0, .int .i64 0, .int .u64 0] 66)).heap[w1.heap.size]? = some (.cells cs 61 (0, 0)) :=
    (Below.heap_alloc _ _ _ (by omega)).trans (K.heap_alloc_at _ _)
  have hR1 : RdAt ((w1.alloc (.cells cs 61)).alloc (.cells #[.int .u64 0, .bool false, .bool false, .bool false, .bool true, .int .u8 0, .int .u8 0, .int .u8 0, .int .u8 0, .int .u8 0, .slice none 0 0, .int .i64 0, .int .u64 0] 66)) (w1.heap.size + 1) r0 := by
    have h := K.heap_alloc_at (w1.alloc (.cells cs 61)) (.cells #[.int .u64 0, .bool false, .bool false, .bool false, .bool true, .int .u8 0, .int .u8 0, .int .u8 0, .int .u8 0, .int .u8 0, .slice none 0 0, .int .i64 0, .int .u64 0] 66)
    rw [s1] at h
    exact h
  have hB1 : Below w1.heap.size w1 ((w1.alloc (.cells cs 61)).alloc (.cells #[.int .u64 0, .bool false, .bool false, .bool false, .bool true, .int .u8 0, .int .u8 0, .int .u8 0, .int .u8 0, .int .u8 0, .slice none 0 0, .int .i64 0, .int .u64 0] 66)) := ((Below.refl _ _).alloc (Nat.le_refl _) _).alloc (by omega) _
  have s2 : ((w1.alloc (.cells cs 61)).alloc (.cells #[.int .u64 0, .bool false, .bool false, .bool false, .bool true, .int .u8 0, .int .u8 0, .int .u8 0, .int .u8 0, .int .u8 0, .slice none 0 0, .int .i64 0, .int .u64 0] 66)).heap.size = w1.heap.size + 2 := by simp
  generalize (w1.alloc (.cells cs 61)).alloc (.cells #[.int .u64 0, .bool false, .bool false, .bool false, .bool true, .int .u8 0, .int .u8 0, .int .u8 0, .int .u8 0, .int .u8 0, .slice none 0 0, .int .i64 0, .int .u64 0] 66) = X at hC1 hR1 hB1 s2 ⊢
  clear s1 hz
  refine (init_any (w1.heap.size + 1) r0 X hR1).mono ?_
  rintro e w2 ⟨rfl, hR2, hb2⟩
  have hC2 := (hb2.block w1.heap.size (by omega) (by simp)).trans hC1
  have hB2 : Below w1.heap.size w1 w2 := But.below hB1 hb2 (fun k hk => by omega) (by omega)
  have hs2 : w1.heap.size + 2 ≤ w2.heap.size := by have := hb2.size; omega
  have hst := start_bt (fl := 0) (W0 := W0) HZ.out.1 HZ.out.2 HA.out.1 hnp HA.out.2.1 HA.out.2.2.1 HA.out.2.2.2.1 hC2 hR2 hB2 rfl HM.out hM9
  have HST := Lib.hid hst
  clear hst hC2 hR2 hB2 hb2 hC1 hR1 hB1 s2
  have hsz4 : ((w2.alloc (.cells #[.slice (some ⟨L, 0, none⟩) np cp, .int .i64 0] 69)).alloc (.cells #[.slice none 0 0] 43)).heap.size = w2.heap.size + 2 := by simp
  go_wp2_with fail
  generalize (w2.alloc (.cells #[.slice (some ⟨L, 0, none⟩) np cp, .int .i64 0] 69)).alloc (.cells #[.slice none 0 0] 43) = w4 at HST hsz4 ⊢
  generalize w2.heap.size = P at hs2 HST hsz4 ⊢
  clear hsz4
  obtain ⟨C, hC⟩ : ∃ C, w1.heap.size = C := ⟨_, rfl⟩
  rw [hC] at hs2 HST ⊢
  have HE : Hid (∀ fl, Nm.Ok ⟨W0, P + 2, C, C + 1, P, L, P + 1, np, cp, fl⟩) := by
    have h1 := HST.out.2
    have h2 := HA.out.2.1.size
    exact Lib.hid fun fl => ⟨by simp only; omega, by simp only; omega, by simp only; omega, by simp only; omega, by simp only; omega, by simp only; omega, by simp only; omega, by simp only; omega, by simp only; omega, by simp only; omega, by simp only; omega, by simp only; omega, h1.2.2.1, HA.out.2.2.2.2.1, HA.out.2.2.2.2.2⟩
  have hFl := HST.out.2.2.2.2
  have HBI := Lib.hid HST.out.1
  have HFL := Lib.hid hFl
  clear hFl HST hC HA
  go_loopg [10, 11] (F.length + 1) (fun gk _ _ x => ∃ (a : Nat) (G : List Pc) (r : RdV) (kv : Value) (nk : Nat) (D : List Ch) (outs : List Value) (ov : Value), gk = G.length + 1 ∧ a + G.length = np ∧ Hid (BInv ⟨W0, P + 2, C, C + 1, P, L, P + 1, np, cp, 0⟩ M (flat F) x a G r kv nk D outs ov))
  case atStart => exact ⟨0, F, _, _, 0, [], [], _, rfl, by have := HFL.out; omega, HBI⟩
  case round =>
    obtain ⟨a, G, r, kv, nk, D, outs, ov, rfl, haG, HJ⟩ := hrel
    have p0 := HJ.out.1.cn.p.c0
    have p1 := HJ.out.1.cn.p.c1
    cases G with
    | nil =>
      have e1 : ¬ ((a : Int) < (np : Int)) := by simp at haG; omega
      have o0 := HJ.out.1.oa.c
      have k0 := HJ.out.1.ca.c
      have k1 := HJ.out.1.ca.d
      simp only at p0 p1 o0 k0 k1
      go_wp2_with fail
      go_quiet (fail)
      go_wp2_with fail
      have HQ := HJ.out.drewN nq
      generalize wr.drewN nq = y at HQ ⊢
      have o0 := HQ.1.oa.c
      have k0 := HQ.1.ca.c
      have k1 := HQ.1.ca.d
      simp only at o0 k0 k1
      have HQ2 := Lib.hid HQ
      clear HQ
      go_quiet (fail)
      go_wp2_with fail
      refine bodyPost_ret (K.results_tmp4 rfl _ _ _) rfl ?_
      exact fine_post (HQ2.out.drewN nq)
    | cons p G =>
      have e1 : (a : Int) < (np : Int) := by simp at haG; omega
      have e0 : (0 : Int) ≤ (a : Int) := by omega
      obtain ⟨v, lc, q, rfl, hq⟩ := HJ.out.1.cn.l.cell (j := 0) rfl
      simp only [Nat.add_zero] at lc p0 p1
      have hpk := HJ.out.1.cn.f p List.mem_cons_self
      have hlc : p.len ≤ p.c := hpk.2.2.1
      have hl1 : p.len ≤ 1000000 := by have := hpk.2.2.2; unfold Pc.len; omega
      have HQ := Lib.hid hq
      obtain ⟨m, hm⟩ : ∃ m, p.len = m := ⟨_, rfl⟩
      rw [hm] at lc hlc hl1
      have HM2 := Lib.hid hm
      clear hm hq hpk
      go_wp2_with fail
      go_quiet (fail)
      revert nq
      intro n1
      go_wp2_with fail
      go_quiet (fail)
      have HY := (HJ.out.drewN n1).drewN nq
      generalize (wr.drewN n1).drewN nq = y at HY ⊢
      have y0 := HY.1.cn.p.c0
      have y1 := HY.1.cn.p.c1
      have yf := HY.1.cn.p.fz 1
      have HN := (HY.at G.length).next (HE.out _) (Nat.le_refl _)
      have HS := fun h => ((HY.at G.length).skip (HE.out _) (Nat.le_refl _) h).at 0
      rw [show ((a + 1 : Nat) : Int) = (a : Int) + 1 from rfl] at HN HS
      simp only at y0 y1 yf HN HS
      have HYY := Lib.hid (And.intro HN HS)
      clear HY HN HS lc p0 p1
      rcases Nat.eq_zero_or_pos m with rfl | hm0
      · have HSK := Lib.hid (HYY.out.2 HM2.out)
        clear HYY
        go_wp2_with fail
        refine (loop_zero _ _ _ _ _ _ _).mono ?_
        rintro e w' ⟨rfl, rfl⟩
        go_wp2_with fail
        go_roundg (G.length + 1)
        case measure => simp
        case rel => exact ⟨a + 1, G, r, kv, nk, D, outs, ov, rfl, by simp at haG; omega, HSK⟩
      · obtain rfl : q = p.o := HQ.out (by rw [HM2.out]; exact hm0)
        have hlp := loop_any _ (HE.out _) p.g p.o p.len p.c M (flat F) _ (a + 1) G r kv nk p.B D outs ov HYY.out.1 (by rw [HM2.out]; exact hl1) (by rw [HM2.out]; exact hlc) hM9
        rw [HM2.out] at hlp
        simp only at hlp
        clear HYY
        go_wp2_with fail
        with_reducible refine hlp.mono ?_
        rintro e w' (⟨rfl, a2, G2, r2, kv2, nk2, B2, D2, outs2, ov2, hI⟩ | ⟨te, ve, rfl, hI⟩)
        · have hfl : G2.length ≤ G.length := hI.1.fl
          have HI2 := Lib.hid (hI.leave.at 0)
          clear hI hlp
          go_wp2_with fail
          go_roundg (G2.length + 1)
          case measure => simp; omega
          case rel => exact ⟨a2, G2, r2, kv2, nk2, D2, outs2, ov2, rfl, HI2.out.1.cn.n, HI2⟩
        · obtain ⟨kv2, cl, D2, outs2, ov2, s2, l2, he, hg1, hg2, hg3, hg4⟩ := hI
          have o0 := he.oa.c
          have k0 := he.ca.c
          have k1 := he.ca.d
          simp only at o0 k0 k1
          have HEE := Lib.hid (And.intro he (And.intro hg1 (And.intro hg2 (And.intro hg3 hg4))))
          clear he hg1 hg2 hg3 hg4 hlp
          go_wp2_with fail
          go_quiet (fail)
          go_wp2_with fail
          refine bodyPost_ret (K.results_tmp4 rfl _ _ _) rfl ?_
          exact err_post HEE.out.1 HEE.out.2.1 HEE.out.2.2.1 HEE.out.2.2.2.1 HEE.out.2.2.2.2 te ve nq
end Go.Proofs.YtkkedekgniffoaaDoor
