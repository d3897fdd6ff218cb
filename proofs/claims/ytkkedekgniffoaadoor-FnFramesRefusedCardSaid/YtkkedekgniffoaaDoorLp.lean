/-
  What a round of the reader's loop leaves, and what an error leaves.
-/
import Derived.Test.YtkkedekgniffoaaDoorBs
namespace Go.Proofs.YtkkedekgniffoaaDoor
open Go.RowKit

/-- what is there when the reader ends -/
structure Eo (E : Nm) (x : World) (kv : Value) (cl : Nat) (D : List Ch) (outs : List Value) (ov : Value) : Prop where
  ca : CAt x E.C kv cl
  w0 : Below E.W0.heap.size E.W0 x
  oa : OAt x E.O ov
  oo : x.ownsRow E.B1 50 1 ov D.length outs
  ov : OutV D outs
  cb : ∀ ch ∈ D, ChB x ch
theorem Bs.eo {E : Nm} {g o m : Nat} {x x' : World} {pos a : Nat} {F : List Pc} {r : RdV} {kv : Value} {nk : Nat} {B : List UInt8} {D : List Ch} {outs : List Value} {ov : Value} (hE : E.Ok) (h : Bs E g o m x pos a F r kv nk B D outs ov)
    (hb : But (fun k => k = E.P ∨ k = E.L ∨ k = E.R) x x') : Eo E x' kv 0 D outs ov := by
  obtain ⟨t1, t2, t3, t4, t5, t6, t7, t8, t9, t10⟩ := h.tags
  have hB1 : ∀ k, E.B1 ≤ k → ¬ (k = E.P ∨ k = E.L ∨ k = E.R) := fun k hk hs => by
    have := hE.p1; have := hE.l1; have := hE.r1
    rcases hs with h | h | h <;> omega
  refine ⟨?_, ?_, ?_, ?_, h.ov, ?_⟩
  · exact h.ca.at (hb.block _ h.ca.lt (fun hs => by rcases hs with h | h | h; exact t3 h.symm; exact t6 h.symm; exact t8 h.symm))
  · exact But.below h.w0 hb (fun k hk => by have := hE.p0; have := hE.l0; have := hE.r0; rcases hk with h | h | h <;> omega) h.w0.size
  · exact h.oa.at (hb.block _ h.oa.lt (fun hs => by rcases hs with h | h | h; exact t4 h.symm; exact t7 h.symm; exact t9 h.symm))
  · exact own_move h.oo fun q hq => hb.block q (own_lt h.oo hq) (hB1 q (own_blk h.oo hq).1)
  · intro ch hch
    obtain ⟨B', h1, h2⟩ := h.cb ch hch
    obtain ⟨q1, q2, q3, q4, q5⟩ := h.byte h1
    exact ⟨B', h1.but hb (fun hs => by rcases hs with h | h | h; exact q1 h; exact q2 h; exact q3 h), h2⟩
theorem Bs.eo' {E : Nm} {g o m : Nat} {x x' : World} {pos a : Nat} {F : List Pc} {r : RdV} {kv : Value} {nk : Nat} {B : List UInt8} {D : List Ch} {outs : List Value} {ov : Value} (hE : E.Ok) (h : Bs E g o m x pos a F r kv nk B D outs ov)
    (hb : Below x.heap.size x x') : Eo E x' kv 0 D outs ov := h.eo hE (But.of hb)

def GetB (E : Nm) (g o m need : Nat) (pos : Nat) (F : List Pc) (r : RdV) (kv : Value) (nk : Nat) (B : List UInt8) (D : List Ch) (outs : List Value) (ov : Value) (e : Ending) (x' : World) : Prop :=
  (∃ te ve, e = .returned (.tuple #[.slice none 0 0, .int .u64 0, .iface te ve]) ∧ Hid ((rest B (o + pos) F).length < need ∧ Eo E x' kv 0 D outs ov)) ∨
  (∃ (g' o' c' pos' a' : Nat) (F' : List Pc), e = .returned (.tuple #[.slice (some ⟨g', o', none⟩) need c', .int .u64 pos', .nilIface]) ∧
    Hid (pos ≤ pos' ∧ need ≤ c' ∧ need ≤ (rest B (o + pos) F).length ∧ rest B (o + pos') F' = (rest B (o + pos) F).drop need ∧
      (∀ j c, j < need → (rest B (o + pos) F)[j]? = some c → x'.cell? ⟨g', o' + j, none⟩ = some (.int .u8 c.toNat)) ∧ Bs E g o m x' pos' a' F' r kv nk B D outs ov))

theorem Bs.get {E : Nm} {g o m : Nat} {x : World} {pos a : Nat} {F : List Pc} {r : RdV} {kv : Value} {nk : Nat} {B : List UInt8} {D : List Ch} {outs : List Value} {ov : Value} (hE : E.Ok) (h : Bs E g o m x pos a F r kv nk B D outs ov)
    (need c : Nat) (hn0 : 0 < need) (hn : need ≤ 10) (hm : m ≤ 1000000) (hmc : m ≤ c) (hm0 : 0 < m) :
    Calls Tryd.prog 24 #[.iface 67 (.pointer (some ⟨E.P, 0, none⟩)), .slice (some ⟨g, o, none⟩) m c, .int .u64 pos, .int .u64 need] x (GetB E g o m need pos F r kv nk B D outs ov) := by
  obtain ⟨te, ve, he⟩ := hE.e
  have h1s : 1 < E.W0.heap.size := World.block_lt_of_cell? _ _ he
  refine (get_any E.P E.L E.np E.cp a g o m c pos need B F x h.cn h.b h.om hm hmc h.pl hm0 hn0 (by omega) hE.n hE.c (h.iface he) (by have := hE.p0; omega) (by have := hE.l0; omega)).mono ?_
  rintro e x' (⟨h1, te1, ve1, rfl, hb⟩ | ⟨h1, g', o', c', pos', a', i, F', B', rfl, hp1, hp2, hrs, hB', hol, htk, hnc', hC1, hF1, hb, hgg⟩)
  · exact Or.inl ⟨te1, ve1, rfl, Lib.hid ⟨h1, h.eo hE (hb.mono fun k _ hk => hk.elim Or.inl (fun h => Or.inr (Or.inl h)))⟩⟩
  · obtain ⟨t1, t2, t3, t4, t5, t6, t7, t8, t9, t10⟩ := h.tags
    refine Or.inr ⟨g', o', c', pos', a', F', rfl, Lib.hid ⟨hp1, hnc', h1, hrs, ?_, h.mv hE (hb.mono fun k _ hk => hk.elim Or.inl (fun h => Or.inr (Or.inl h))) (h.rd.at (hb.block _ h.rd.lt (fun hk => hk.elim (Ne.symm t2) (Ne.symm t5)))) hC1 hF1 hp1 hp2⟩⟩
    intro j c hj hc
    refine hB'.cell ?_
    have h2 := congrArg (fun l => l[j]?) htk
    simp only [List.getElem?_take, List.getElem?_drop] at h2
    rw [if_pos hj, if_pos hj, hc] at h2
    exact h2

/-- one frame's bytes are unmasked in the buffer -/
theorem Bs.mix {E : Nm} {g o m : Nat} {x x' : World} {pos pos' a : Nat} {F : List Pc} {r r' : RdV} {kv : Value} {nk : Nat} {B B2 : List UInt8} {D : List Ch} {outs : List Value} {ov : Value} (hE : E.Ok) (h : Bs E g o m x pos a F r kv nk B D outs ov)
    (hb : But (fun k => k = g ∨ k = E.R) x x') (hr : RdAt x' E.R r') (hB2 : ByteRow x' g B2) (hl : B2.length = B.length) (he : ∀ j, j < o + pos → B2[j]? = B[j]?) (hp : pos ≤ pos') (hm : pos' ≤ m) :
    Bs E g o m x' pos' a F r' kv nk B2 D outs ov := by
  obtain ⟨t1, t2, t3, t4, t5, t6, t7, t8, t9, t10⟩ := h.tags
  obtain ⟨g1, g2, g3, g4, g5⟩ := h.byte h.b
  have hgb := h.gb
  have hr1 := hE.r1
  refine ⟨?_, hr, ?_, ?_, hB2, by rw [hl]; exact h.om, ?_, ?_, ?_, h.ov, ?_, ?_, h.fb, hm, Nat.le_trans h.bs hb.size, h.gb, h.g0, h.so, h.fl⟩
  · refine h.cn.but hb (fun hk => hk.elim (Ne.symm g1) t2) (fun hk => hk.elim (Ne.symm g2) t5) (fun y hy hk => ?_)
    rcases hk with hk | hk
    · have := (h.fb y hy).2; omega
    · exact (h.byte (h.cn.f y hy).1).2.2.1 hk
  · exact h.ca.at (hb.block _ h.ca.lt (fun hk => hk.elim (Ne.symm g4) (Ne.symm t8)))
  · exact h.ko.move hb (fun k hk => by left; rcases hk with h | h <;> omega)
  · exact But.below h.w0 hb (fun k hk => by have := hE.r0; have := h.g0; rcases hk with h | h <;> omega) h.w0.size
  · exact h.oa.at (hb.block _ h.oa.lt (fun hk => hk.elim (Ne.symm g5) (Ne.symm t9)))
  · exact own_move h.oo fun q hq => hb.block q (own_lt h.oo hq) (fun hk => by have := (own_blk h.oo hq).1; rcases hk with h | h <;> omega)
  · intro ch hch
    refine (h.cb ch hch).step hb h.b hB2 (by have := h.om; have := h.pl; omega) he (h.fr ch hch) (fun B' hB' hne hk => ?_)
    rcases hk with hk | hk
    · exact hne hk
    · exact (h.byte hB').2.2.1 hk
  · intro ch hch
    rcases h.fr ch hch with h1 | ⟨h1, h2⟩
    · exact Or.inl h1
    · exact Or.inr ⟨h1, by omega⟩
/-- data have been handed out -/
theorem Bs.out {E : Nm} {g o m : Nat} {x x' : World} {pos a : Nat} {F : List Pc} {r : RdV} {kv : Value} {nk : Nat} {B : List UInt8} {D : List Ch} {outs : List Value} {ov ov' v : Value} {ch : Ch} (hE : E.Ok) (h : Bs E g o m x pos a F r kv nk B D outs ov)
    (hb : But (fun k => k = E.O ∨ ov.ownBlock = some k) x x') (ho : OAt x' E.O ov') (hw : x'.ownsRow E.B1 50 1 ov' (D.length + 1) (outs ++ [v])) (hv : ChV ch v) (hc : ChB x ch) (hf : ch.g = g ∧ ch.o + ch.d.length ≤ o + pos) :
    Bs E g o m x' pos a F r kv nk B (D ++ [ch]) (outs ++ [v]) ov' := by
  obtain ⟨t1, t2, t3, t4, t5, t6, t7, t8, t9, t10⟩ := h.tags
  obtain ⟨g1, g2, g3, g4, g5⟩ := h.byte h.b
  have hgb := h.gb
  have hS : ∀ k, k < E.B1 → k ≠ E.O → ¬ (k = E.O ∨ ov.ownBlock = some k) := fun k hk hne hs => by
    rcases hs with hs | hs
    · exact hne hs
    · have := (own_blk h.oo hs).1; omega
  have hcb : ∀ c, ChB x c → c.g < E.B1 → ChB x' c := fun c hc hlt => by
    obtain ⟨B', h1, h2⟩ := hc
    exact ⟨B', h1.but hb (hS c.g hlt (h.byte h1).2.2.2.2), h2⟩
  have hcg : ∀ c ∈ D, c.g < E.B1 := fun c hc => by rcases h.fr c hc with h1 | ⟨h1, _⟩ <;> omega
  refine ⟨?_, ?_, ?_, ?_, ?_, h.om, ?_, ho, ?_, h.ov.snoc hv, ?_, ?_, h.fb, h.pl, Nat.le_trans h.bs hb.size, h.gb, h.g0, h.so, h.fl⟩
  · exact h.cn.but hb (hS _ hE.p1 t4) (hS _ hE.l1 t7) (fun y hy => hS _ (h.fb y hy).1 (h.byte (h.cn.f y hy).1).2.2.2.2)
  · exact h.rd.at (hb.block _ h.rd.lt (hS _ hE.r1 t9))
  · exact h.ca.at (hb.block _ h.ca.lt (hS _ hE.q1 t10))
  · obtain ⟨xs, hk⟩ := h.ko
    refine ⟨xs, own_move hk fun q hq => hb.block q (own_lt hk hq) (fun hs => ?_)⟩
    obtain ⟨h1, cur, h2⟩ := own_blk hk hq
    rcases hs with hs | hs
    · have := hE.o1; omega
    · obtain ⟨_, cur', h3⟩ := own_blk h.oo hs
      exact tag_ne h2 h3 (by decide) rfl
  · exact h.b.but hb (hS _ h.gb g5)
  · refine But.below h.w0 hb (fun k hk => ?_) h.w0.size
    rcases hk with hk | hk
    · have := hE.o0; omega
    · have := (own_blk h.oo hk).1; have := hE.b0; omega
  · rw [List.length_append]; exact hw
  · intro c hc'
    rcases List.mem_append.mp hc' with h1 | h1
    · exact hcb c (h.cb c h1) (hcg c h1)
    · have : c = ch := by simpa using h1
      subst this
      exact hcb c hc (by omega)
  · intro c hc'
    rcases List.mem_append.mp hc' with h1 | h1
    · exact h.fr c h1
    · have : c = ch := by simpa using h1
      subst this
      exact Or.inr hf
theorem Bs.pre {E : Nm} {g o m c : Nat} {x : World} {pos a : Nat} {F : List Pc} {r : RdV} {kv : Value} {nk : Nat} {B : List UInt8} {D : List Ch} {outs : List Value} {ov : Value} (hE : E.Ok) (h : Bs E g o m x pos a F r kv nk B D outs ov) (hk : r.kp = 0) :
    CtlPre E.W0 E.B1 E.C E.R E.P E.L E.np E.cp a g o m c pos nk 0 kv B F r x :=
  ⟨h.cn, h.rd, hk, h.ca, h.ko, h.b, h.om, h.bs, hE.q1, hE.r1, hE.p1, hE.l1, h.gb, fun y hy => ⟨(h.fb y hy).1, by have := (h.fb y hy).2; omega⟩, hE.t, h.w0, hE.p0, hE.l0, hE.r0, hE.q0, h.g0, hE.b0⟩
/-- a control frame has been read -/
theorem Bs.ctlS {E : Nm} {g o m : Nat} {x : World} {pos a : Nat} {F : List Pc} {r : RdV} {kv : Value} {nk : Nat} {B : List UInt8} {D : List Ch} {outs : List Value} {ov : Value} (hE : E.Ok) (h : Bs E g o m x pos a F r kv nk B D outs ov) :
    (∀ q cur, E.B1 ≤ q → x.heap[q]? = some (.cells cur 50 (0, 0)) → ¬ (q = E.P ∨ q = E.L ∨ q = E.R ∨ q = E.C ∨ q = g ∨ kv.ownBlock = some q)) ∧ (∀ k, (k = E.P ∨ k = E.L ∨ k = E.R ∨ k = E.C ∨ k = g ∨ kv.ownBlock = some k) → E.W0.heap.size ≤ k) ∧
    (∀ k, k < E.B1 → k ≠ E.P → k ≠ E.L → k ≠ E.R → k ≠ E.C → k ≠ g → ¬ (k = E.P ∨ k = E.L ∨ k = E.R ∨ k = E.C ∨ k = g ∨ kv.ownBlock = some k)) := by
  have hgb := h.gb
  refine ⟨fun q cur hq hc hs => ?_, fun k hs => ?_, fun k hk h1 h2 h3 h4 h5 hs => ?_⟩
  · have := hE.p1; have := hE.l1; have := hE.r1; have := hE.q1
    rcases hs with hs | hs | hs | hs | hs | hs
    · omega
    · omega
    · omega
    · omega
    · omega
    · obtain ⟨xs, hk⟩ := h.ko
      obtain ⟨_, cur', h3⟩ := own_blk hk hs
      exact tag_ne hc h3 (by decide) rfl
  · have := hE.p0; have := hE.l0; have := hE.r0; have := hE.q0; have := hE.b0; have := h.g0
    rcases hs with hs | hs | hs | hs | hs | hs
    · omega
    · omega
    · omega
    · omega
    · omega
    · obtain ⟨xs, hk⟩ := h.ko
      have := (own_blk hk hs).1; omega
  · rcases hs with hs | hs | hs | hs | hs | hs
    · exact h1 hs
    · exact h2 hs
    · exact h3 hs
    · exact h4 hs
    · exact h5 hs
    · obtain ⟨xs, hk'⟩ := h.ko
      have := (own_blk hk' hs).1; omega
theorem Bs.ctlE {E : Nm} {g o m : Nat} {x x' : World} {pos a cl : Nat} {F : List Pc} {r : RdV} {kv kv' : Value} {nk : Nat} {B B2 : List UInt8} {D : List Ch} {outs : List Value} {ov : Value} (hE : E.Ok) (h : Bs E g o m x pos a F r kv nk B D outs ov)
    (hb : But (fun k => k = E.P ∨ k = E.L ∨ k = E.R ∨ k = E.C ∨ k = g ∨ kv.ownBlock = some k) x x') (hB2 : ByteRow x' g B2) (he : ∀ j, j < o + pos → B2[j]? = B[j]?) (hc : CAt x' E.C kv' cl) : Eo E x' kv' cl D outs ov := by
  obtain ⟨t1, t2, t3, t4, t5, t6, t7, t8, t9, t10⟩ := h.tags
  obtain ⟨g1, g2, g3, g4, g5⟩ := h.byte h.b
  obtain ⟨s1, s2, s3⟩ := h.ctlS hE
  refine ⟨hc, But.below h.w0 hb s2 h.w0.size, ?_, ?_, h.ov, ?_⟩
  · exact h.oa.at (hb.block _ h.oa.lt (s3 _ hE.o1 (Ne.symm t4) (Ne.symm t7) (Ne.symm t9) (Ne.symm t10) (Ne.symm g5)))
  · exact own_move h.oo fun q hq => hb.block q (own_lt h.oo hq) (by obtain ⟨h1, cur, h2⟩ := own_blk h.oo hq; exact s1 q cur h1 h2)
  · intro ch hch
    refine (h.cb ch hch).step hb h.b hB2 (by have := h.om; have := h.pl; omega) he (h.fr ch hch) (fun B' hB' hne => ?_)
    obtain ⟨q1, q2, q3, q4, q5⟩ := h.byte hB'
    exact s3 _ (by have := h.gb; rcases h.fr ch hch with h1 | ⟨h1, _⟩ <;> omega) q1 q2 q3 q4 hne
theorem Bs.ctl {E : Nm} {g o m : Nat} {x x' : World} {pos pos' a a' i : Nat} {F F' : List Pc} {r r' : RdV} {kv kv' : Value} {nk nk' : Nat} {B B2 : List UInt8} {D : List Ch} {outs : List Value} {ov : Value} (hE : E.Ok) (h : Bs E g o m x pos a F r kv nk B D outs ov)
    (hb : But (fun k => k = E.P ∨ k = E.L ∨ k = E.R ∨ k = E.C ∨ k = g ∨ kv.ownBlock = some k) x x') (hB2 : ByteRow x' g B2) (hl : B2.length = B.length) (he : ∀ j, j < o + pos → B2[j]? = B[j]?) (hc : CAt x' E.C kv' 0) (hk : KOwn x' E.B1 kv' nk')
    (hr : RdAt x' E.R r') (hn : Cn x' E.P E.L E.np E.cp a' F') (hF : F'.map Pc.g = (F.map Pc.g).drop i) (hp : pos ≤ pos') (hm : pos' ≤ m) : Bs E g o m x' pos' a' F' r' kv' nk' B2 D outs ov := by
  have hq := h.ctlE hE hb hB2 he hc
  refine ⟨hn, hr, hc, hk, hB2, by rw [hl]; exact h.om, hq.w0, hq.oa, hq.oo, hq.ov, hq.cb, ?_, ?_, hm, Nat.le_trans h.bs hb.size, h.gb, h.g0, by rw [hF]; exact h.so.drop, Nat.le_trans (suffix_len hF) h.fl⟩
  · intro ch hch
    rcases h.fr ch hch with h1 | ⟨h1, h2⟩
    · exact Or.inl h1
    · exact Or.inr ⟨h1, by omega⟩
  · intro y hy
    obtain ⟨z, hz, hzy⟩ := suffix_mem hF hy
    rw [← hzy]; exact h.fb z hz

/-! ## The machine beside the reader -/
def stOf (r : RdV) : Fr.St := ⟨r.fs, r.ff, r.rem, r.key, r.kp⟩
def joinD (D : List Ch) : List UInt8 := D.flatMap Ch.d
theorem joinD_snoc (D : List Ch) (ch : Ch) : joinD (D ++ [ch]) = joinD D ++ ch.d := by simp [joinD]
def fsN (b : Bool) : Nat := if b then 0 else 1

/-- what holds at the head of each round -/
def Inv (E : Nm) (g o m M : Nat) (L0 : List UInt8) (x : World) (pos : Nat) (a : Nat) (F : List Pc) (r : RdV) (kv : Value) (nk : Nat) (B : List UInt8) (D : List Ch) (outs : List Value) (ov : Value) : Prop :=
  Bs E g o m x pos a F r kv nk B D outs ov ∧ r.kp < 4 ∧ r.rem < 9223372036854775808 ∧ Fr.Reach Fr.start L0 (joinD D) (stOf r) (rest B (o + pos) F) ∧ nk + (rest B (o + pos) F).length ≤ M ∧ (D.length + (rest B (o + pos) F).length + fsN r.fs ≤ M ∧ M ≤ 900000)
/-- what an error leaves -/
def ErrOut (E : Nm) (L0 : List UInt8) (x : World) : Prop :=
  ∃ kv cl D outs ov s l, Eo E x kv cl D outs ov ∧ Fr.Reach Fr.start L0 (joinD D) s l ∧ Fr.step s l = none ∧ ((Fr.fin s l = .err ∧ cl = 0) ∨ Fr.fin s l = .closed cl) ∧ D.length ≤ 900000
def LoopPost (E : Nm) (g o m M : Nat) (L0 : List UInt8) (e : Ending) (x : World) : Prop :=
  (e = .returned .nilIface ∧ ∃ a F r kv nk B D outs ov, Inv E g o m M L0 x m a F r kv nk B D outs ov) ∨ (∃ te ve, e = .returned (.iface te ve) ∧ ErrOut E L0 x)

/-- a head that is none -/
theorem head_err {ff : Bool} {rem kp : Nat} {key : List UInt8} {l : List UInt8} (hl : l ≠ []) (h : Fr.head ff l = none) : Fr.step ⟨true, ff, rem, key, kp⟩ l = none ∧ Fr.fin ⟨true, ff, rem, key, kp⟩ l = .err := by
  constructor
  · simp [Fr.step, h]
  · simp [Fr.fin, h, hl]
/-- some of a frame's data have been read and handed out -/
theorem data_step {E : Nm} (hE : E.Ok) {g o m M gk : Nat} {L0 : List UInt8} {wc : World} {pos a : Nat} {F : List Pc} {r : RdV} {kv : Value} {nk : Nat} {B : List UInt8} {D : List Ch} {outs : List Value} {ov : Value} (HJ : Inv E g o m M L0 wc pos a F r kv nk B D outs ov)
    (hfs : r.fs = false) {n q : Nat} (hn : n = min r.rem (m - pos)) (hq : q = r.rem - n) (hlt : pos < m) (hg1 : 2 * (rest B (o + pos) F).length + 2 ≤ gk) (x2 : World) (hx2 : UnmPost E.R g (o + pos) n B { r with rem := q } (wc.setCell ⟨E.R, 0, none⟩ (.int .u64 q)) (.returned (.tuple #[])) x2) :
    Bs E g o m x2 (pos + n) a F { r with rem := q, kp := (r.kp + n) % 4 } kv nk (mixU r.key r.kp B (o + pos) n) D outs ov ∧ ChB x2 ⟨g, o + pos, Fr.unm r.key r.kp ((B.drop (o + pos)).take n)⟩ ∧
    (Fr.unm r.key r.kp ((B.drop (o + pos)).take n)).length = n ∧
    (∀ D' outs' ov' x3, Bs E g o m x3 (pos + n) a F { r with rem := q, kp := (r.kp + n) % 4, fs := decide (q = 0) } kv nk (mixU r.key r.kp B (o + pos) n) D' outs' ov' → D' = D ++ [⟨g, o + pos, Fr.unm r.key r.kp ((B.drop (o + pos)).take n)⟩] →
      Inv E g o m M L0 x3 (pos + n) a F { r with rem := q, kp := (r.kp + n) % 4, fs := decide (q = 0) } kv nk (mixU r.key r.kp B (o + pos) n) D' outs' ov' ∧
      2 * (rest (mixU r.key r.kp B (o + pos) n) (o + (pos + n)) F).length + fsN (decide (q = 0)) + 1 < gk) := by
  have hrem := HJ.2.2.1
  have hn2 : pos + n ≤ m := by omega
  have HB1 := HJ.1.rdw hE ((But.refl (fun k => k = E.R) wc).setCell ⟨E.R, 0, none⟩ (.int .u64 q) rfl) (HJ.1.rd.set0 q)
  obtain ⟨_, hR2, hB2, hb2⟩ := hx2
  have hom := HJ.1.om
  have hmix := HB1.mix hE hb2 hR2 hB2 (mixU_length _ _ _ _ _) (fun j hj => mixU_far _ _ _ _ _ _ (Or.inl hj)) (Nat.le_add_right pos n) hn2
  have hul : (Fr.unm r.key r.kp ((B.drop (o + pos)).take n)).length = n := by rw [Fr.unm_length]; simp; omega
  refine ⟨hmix, ⟨_, hB2, fun j c hj => ?_⟩, hul, fun D' outs' ov' x3 hB3 hD' => ?_⟩
  · rw [← mixU_unm] at hj
    have hjl := (List.getElem?_eq_some_iff.1 hj).1
    rw [List.getElem?_take, List.getElem?_drop] at hj
    split at hj
    · exact hj
    · cases hj
  · have hdrop : (mixU r.key r.kp B (o + pos) n).drop (o + (pos + n)) = B.drop (o + (pos + n)) := by
      apply List.ext_getElem?
      intro j
      rw [List.getElem?_drop, List.getElem?_drop]
      exact mixU_far _ _ _ _ _ _ (Or.inr (by omega))
    have hrest : rest (mixU r.key r.kp B (o + pos) n) (o + (pos + n)) F = (rest B (o + pos) F).drop n := by
      unfold rest
      rw [hdrop, List.drop_append_of_le_length (by simp; omega), List.drop_drop, Nat.add_assoc]
    have htake : (rest B (o + pos) F).take n = (B.drop (o + pos)).take n := by
      unfold rest
      rw [List.take_append_of_le_length (by simp; omega)]
    have hrl : n ≤ (rest B (o + pos) F).length := by unfold rest; simp; omega
    have hrl2 : (rest (mixU r.key r.kp B (o + pos) n) (o + (pos + n)) F).length + n = (rest B (o + pos) F).length := by rw [hrest]; simp; omega
    obtain ⟨hB0, hkp, hr63, hreach, hbk, hbd⟩ := HJ
    rw [hfs] at hbd
    have hst : stOf r = ⟨false, r.ff, r.rem, r.key, r.kp % 4⟩ := by unfold stOf; rw [hfs, Nat.mod_eq_of_lt hkp]
    rw [hst] at hreach
    have hgo := hreach.trans (Fr.Reach.data (ff := r.ff) (key := r.key) n r.rem r.kp (rest B (o + pos) F) (by omega) hrl)
    rw [htake, ← hrest] at hgo
    have hqq : r.rem - n = q := hq.symm
    rw [hqq] at hgo
    have hgo2 : Fr.Reach Fr.start L0 (joinD D') (stOf { r with rem := q, kp := (r.kp + n) % 4, fs := decide (q = 0) }) (rest (mixU r.key r.kp B (o + pos) n) (o + (pos + n)) F) := by
      rw [hD', joinD_snoc]
      by_cases hq0 : q = 0
      · have hs : Fr.step ⟨false, r.ff, q, r.key, (r.kp + n) % 4⟩ (rest (mixU r.key r.kp B (o + pos) n) (o + (pos + n)) F) = some ([], ⟨true, r.ff, q, r.key, (r.kp + n) % 4⟩, rest (mixU r.key r.kp B (o + pos) n) (o + (pos + n)) F) := by
          simp [Fr.step, hq0]
        have := hgo.next hs
        rw [List.append_nil] at this
        have hss : stOf { r with rem := q, kp := (r.kp + n) % 4, fs := decide (q = 0) } = ⟨true, r.ff, q, r.key, (r.kp + n) % 4⟩ := by unfold stOf; simp [hq0]
        rw [hss]; exact this
      · have hss : stOf { r with rem := q, kp := (r.kp + n) % 4, fs := decide (q = 0) } = ⟨false, r.ff, q, r.key, (r.kp + n) % 4⟩ := by unfold stOf; simp [hq0]
        rw [hss]; exact hgo
    have hfsn : fsN (decide (q = 0)) = if q = 0 then 0 else 1 := by unfold fsN; by_cases h : q = 0 <;> simp [h]
    have hf1 : fsN false = 1 := rfl
    have hDl : D'.length = D.length + 1 := by rw [hD']; simp
    refine ⟨⟨hB3, Nat.mod_lt _ (by decide), by simp only; omega, hgo2, by omega, ?_⟩, ?_⟩
    · simp only
      rw [hfsn, hDl]
      split <;> omega
    · rw [hfsn]
      split <;> omega
theorem bits_b0 (n : Nat) (h : n < 256) : bits .and .u8 (n : Int) 15 = ((n % 16 : Nat) : Int) ∧ bits .and .u8 (n : Int) 128 = ((n / 128 * 128 : Nat) : Int) ∧ bits .and .u8 (n : Int) 64 = ((n / 64 % 2 * 64 : Nat) : Int) ∧ bits .and .u8 (n : Int) 48 = ((n / 16 % 4 * 16 : Nat) : Int) ∧ bits .and .u8 (n : Int) 127 = ((n % 128 : Nat) : Int) := by
  have : ∀ n : _root_.Fin 256, bits .and .u8 ((n.val : Nat) : Int) 15 = ((n.val % 16 : Nat) : Int) ∧ bits .and .u8 ((n.val : Nat) : Int) 128 = ((n.val / 128 * 128 : Nat) : Int) ∧ bits .and .u8 ((n.val : Nat) : Int) 64 = ((n.val / 64 % 2 * 64 : Nat) : Int) ∧ bits .and .u8 ((n.val : Nat) : Int) 48 = ((n.val / 16 % 4 * 16 : Nat) : Int) ∧ bits .and .u8 ((n.val : Nat) : Int) 127 = ((n.val % 128 : Nat) : Int) := by decide +kernel
  exact this ⟨n, h⟩
end Go.Proofs.YtkkedekgniffoaaDoor
