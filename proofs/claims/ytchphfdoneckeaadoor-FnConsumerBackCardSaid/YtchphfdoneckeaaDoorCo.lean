/-
  impl.Consumer: a script over a store.
-/
import Derived.Test.YtchphfdoneckeaaDoorDo
import Derived.Test.YtchphfdoneckeaaDoorKn
namespace Go.Proofs.YtchphfdoneckeaaDoor
open Go.RowKit
open Cs (Wt Kp)

/-- the cells of a state as plain data -/
def keepCells (k : Kp) (A : Option Addr) (cap : Nat) : List Value := [.int .u64 (k.dc : Int), .int .u64 (k.ds : Int), .int .u64 (k.fc : Int), .int .u64 (k.fs : Int), .slice A k.waits.length cap, .slice none 0 0]
def stCells (kk : Nat → Kp) (Af : Nat → Option Addr) (cf : Nat → Nat) (n : Nat) : List Value := (List.range n).flatMap fun j => keepCells (kk (j + 1)) (Af j) (cf j)
def kdCells (kd : Nat → Int) (n : Nat) : List Value := (List.range n).map fun j => .int .i64 (kd j)
def upd {α : Type} (f : Nat → α) (i : Nat) (x : α) : Nat → α := fun j => if j = i then x else f j
theorem stCells_step (kk : Nat → Kp) (Af : Nat → Option Addr) (cf : Nat → Nat) (n : Nat) (A : Option Addr) (c : Nat) : stCells kk (upd Af n A) (upd cf n c) (n + 1) = stCells kk Af cf n ++ keepCells (kk (n + 1)) A c := by
  unfold stCells
  rw [List.range_succ, List.flatMap_append]
  congr 1
  · rw [List.flatMap_def, List.flatMap_def]
    congr 1
    apply List.map_congr_left
    intro j hj
    have : j ≠ n := by have := List.mem_range.1 hj; omega
    simp [upd, this]
  · simp [upd]
theorem kdCells_step (kd : Nat → Int) (n : Nat) : kdCells kd (n + 1) = kdCells kd n ++ [.int .i64 (kd n)] := by unfold kdCells; rw [List.range_succ, List.map_append]; rfl

theorem wpList_load_eq {P : Program} {ops : Array Oper} {rest : List Oper} {o : Oper} {a : Act} {w : World} {Q : Exit → Act → World → Prop} (hgd : o.guard = none) (ty : TypeId) (x : Operand) (ho : o.op = .load ty x) (p v : Value) (hx : a.eval x = p)
    (hv : (Instr.loadAt ty p).run P w = .ok v w) (h : wpList P ops Q rest (a.put o.dst v) w) : wpList P ops Q (o :: rest) a w :=
  wpList_plain hgd fun _ hK => by
    unfold Oper.wp execOp
    simp only [ho, hx, Sem.run_bind, Sem.run_pure, Result.andThen_ok, hv]
    exact hK _ _ h

/-- i kinds and s states have been laid; the store stands behind q deeds -/
structure CoRel (w : World) (m : Nat) (kk : Nat → Kp) (kd : Nat → Int) (i q s : Nat) (pv kv sv : Value) (Af : Nat → Option Addr) (cf : Nat → Nat) (wr : World) : Prop where
  row : Row wr m 0 (kk q) pv (.map none) 2
  pend : Pend wr pv q (kk q).waits
  kown : wr.ownsRow (m + 1) 3 1 kv i (kdCells kd i)
  sown : wr.ownsRow (m + 1) 31 6 sv s (stCells kk Af cf s)
  ent : ∀ j, j < s → WAt wr (Af j) (kk (j + 1)).waits ∧ ((kk (j + 1)).waits ≠ [] → ∀ a, Af j = some a → m < a.block ∧ kv.ownBlock ≠ some a.block ∧ sv.ownBlock ≠ some a.block)
  bl : Below w.heap.size w wr
  hm : w.heap.size ≤ m
theorem far_act {w : World} {m n : Nat} {k : Kp} {pv rv : Value} {lk ack : Int} (_hR : Row w m lk k pv rv ack) (hP : Pend w pv n k.waits) {j : Nat} {cs : Array Value} {t : TypeId} {f : Nat × Nat} (hj : w.heap[j]? = some (.cells cs t f)) (hm : j ≠ m) : ¬ (j = m ∨ pv = .map (some j)) := by
  rintro (h | h)
  · exact hm h
  · rcases hP with ⟨h1, _⟩ | ⟨b, D, h1, hp⟩
    · rw [h1] at h; cases h
    · rw [h1] at h; cases h
      exact hp.ne hj rfl
theorem WAt.cells {w : World} {A : Option Addr} {l : List Wt} (h : WAt w A l) (hl : l ≠ []) : ∃ a cs t f, A = some a ∧ w.heap[a.block]? = some (.cells cs t f) := by
  obtain ⟨b, o, h1, h2, h3⟩ := h hl
  obtain ⟨x, l', rfl⟩ : ∃ x l', l = x :: l' := by cases l with | nil => exact absurd rfl hl | cons x l' => exact ⟨x, l', rfl⟩
  have h4 := (h3 0 x rfl).1
  simp only [World.cell?] at h4
  split at h4
  · rename_i cs t f hc
    exact ⟨_, cs, t, f, h1, hc⟩
  · cases h4
section
variable {w wr w2 : World} {m i q s : Nat} {kk : Nat → Kp} {kd : Nat → Int} {pv pv' kv sv : Value} {Af : Nat → Option Addr} {cf : Nat → Nat}
theorem WAt.frame {S : Nat → Prop} {A : Option Addr} {l : List Wt} (h : WAt wr A l) (hb : But S wr w2) (hS : l ≠ [] → ∀ a, A = some a → ¬ S a.block) : WAt w2 A l := by
  intro hl
  exact h.but hb (hS hl) hl
theorem CoRel.fresh (h : CoRel w m kk kd i q s pv kv sv Af cf wr) (hb : But (fun _ => False) wr w2) : CoRel w m kk kd i q s pv kv sv Af cf w2 where
  row := h.row.but hb (fun h => h)
  pend := h.pend.but hb (no_far _ _)
  kown := own_move h.kown fun g hg => hb.block g (own_lt h.kown hg) (fun h => h)
  sown := own_move h.sown fun g hg => hb.block g (own_lt h.sown hg) (fun h => h)
  ent := fun j hj => ⟨(h.ent j hj).1.frame hb (fun _ _ _ h => h), (h.ent j hj).2⟩
  bl := But.below h.bl hb (fun _ h => h.elim) h.bl.size
  hm := h.hm
theorem CoRel.acted {q' : Nat} (h : CoRel w m kk kd i q s pv kv sv Af cf wr) (hR : Row w2 m 0 (kk q') pv' (.map none) 2) (hP : Pend w2 pv' q' (kk q').waits) (hb : But (fun j => j = m ∨ pv = .map (some j)) wr w2) (hpm : ∀ b, pv = .map (some b) → w.heap.size ≤ b) : CoRel w m kk kd i q' s pv' kv sv Af cf w2 where
  row := hR
  pend := hP
  kown := own_move h.kown fun g hg => hb.block g (own_lt h.kown hg) (by obtain ⟨h1, cur, h2⟩ := own_blk h.kown hg; exact far_act h.row h.pend h2 (by omega))
  sown := own_move h.sown fun g hg => hb.block g (own_lt h.sown hg) (by obtain ⟨h1, cur, h2⟩ := own_blk h.sown hg; exact far_act h.row h.pend h2 (by omega))
  ent := fun j hj => by
    obtain ⟨h1, h2⟩ := h.ent j hj
    refine ⟨h1.frame hb fun hl a ha => ?_, h2⟩
    obtain ⟨a', cs, t, f, ha', hc⟩ := h1.cells hl
    rw [ha] at ha'
    cases ha'
    exact far_act h.row h.pend hc (by have := (h2 hl a ha).1; omega)
  bl := But.below h.bl hb (fun j hj => hj.elim (fun e => by rw [e]; exact h.hm) (hpm j)) h.bl.size
  hm := h.hm
theorem CoRel.kinds {g cp : Nat} (h : CoRel w m kk kd i q s pv kv sv Af cf wr) (hown : w2.ownsRow (m + 1) 3 1 (.slice (some ⟨g, 0, none⟩) (i + 1) cp) (i + 1) (kdCells kd i ++ [.int .i64 (kd i)])) (hg : wr.grownBy w2 kv.ownBlock) (hat : kv.ownBlock = some g ∨ g = wr.heap.size) (hks : ∀ b, kv.ownBlock = some b → sv.ownBlock ≠ some b) :
    CoRel w m kk kd (i + 1) q s pv (.slice (some ⟨g, 0, none⟩) (i + 1) cp) sv Af cf w2 := by
  have hb : But (fun j => kv.ownBlock = some j) wr w2 := (But.refl _ wr).grown hg (fun j hj _ => hj)
  have hbm : kv.ownBlock ≠ some m := fun e => by have := (own_blk h.kown e).1; omega
  exact {
    row := h.row.but hb hbm
    pend := h.pend.but hb ⟨fun b hb' e => by
        obtain ⟨_, cur, h2⟩ := own_blk h.kown e
        rcases h.pend with ⟨h1, _⟩ | ⟨b', D, h1, hp⟩
        · rw [h1] at hb'; cases hb'
        · rw [h1] at hb'; cases hb'; exact hp.ne h2 rfl, fun p cs f e h93 => by
        obtain ⟨_, cur, h2⟩ := own_blk h.kown e
        rw [h2] at h93
        cases h93⟩
    kown := by rw [kdCells_step]; exact hown
    sown := own_move h.sown fun b hb' => hb.block b (own_lt h.sown hb') (fun e => hks b e hb')
    ent := fun j hj => by
      obtain ⟨h1, h2⟩ := h.ent j hj
      refine ⟨h1.frame hb fun hl a ha => (h2 hl a ha).2.1, fun hl a ha => ⟨(h2 hl a ha).1, fun e => ?_, (h2 hl a ha).2.2⟩⟩
      have e : g = a.block := Option.some.inj e
      rcases hat with h3 | h3
      · exact (h2 hl a ha).2.1 (by rw [h3, e])
      · obtain ⟨a', cs, t, f, ha', hc⟩ := h1.cells hl
        rw [ha] at ha'
        cases ha'
        have := lt_of_heap hc
        omega
    bl := But.below h.bl hb (fun j hj => by have := (own_blk h.kown hj).1; have := h.hm; omega) h.bl.size
    hm := h.hm }
theorem CoRel.states {g cp c0 : Nat} {A : Option Addr} (h : CoRel w m kk kd i q s pv kv sv Af cf wr) (hown : w2.ownsRow (m + 1) 31 6 (.slice (some ⟨g, 0, none⟩) (s + 1) cp) (s + 1) (stCells kk Af cf s ++ keepCells (kk (s + 1)) A c0)) (hg : wr.grownBy w2 sv.ownBlock) (hat : sv.ownBlock = some g ∨ g = wr.heap.size) (hks : ∀ b, sv.ownBlock = some b → kv.ownBlock ≠ some b)
    (hW : WAt wr A (kk (s + 1)).waits) (hA : (kk (s + 1)).waits ≠ [] → ∀ a, A = some a → m < a.block ∧ kv.ownBlock ≠ some a.block ∧ sv.ownBlock ≠ some a.block) :
    CoRel w m kk kd i q (s + 1) pv kv (.slice (some ⟨g, 0, none⟩) (s + 1) cp) (upd Af s A) (upd cf s c0) w2 := by
  have hb : But (fun j => sv.ownBlock = some j) wr w2 := (But.refl _ wr).grown hg (fun j hj _ => hj)
  have hbm : sv.ownBlock ≠ some m := fun e => by have := (own_blk h.sown e).1; omega
  have key : ∀ (A' : Option Addr) (l : List Wt), WAt wr A' l → (l ≠ [] → ∀ a, A' = some a → m < a.block ∧ kv.ownBlock ≠ some a.block ∧ sv.ownBlock ≠ some a.block) →
      WAt w2 A' l ∧ (l ≠ [] → ∀ a, A' = some a → m < a.block ∧ kv.ownBlock ≠ some a.block ∧ (Value.slice (some ⟨g, 0, none⟩) (s + 1) cp).ownBlock ≠ some a.block) := by
    intro A' l h1 h2
    refine ⟨h1.frame hb fun hl a ha => (h2 hl a ha).2.2, fun hl a ha => ⟨(h2 hl a ha).1, (h2 hl a ha).2.1, fun e => ?_⟩⟩
    have e : g = a.block := Option.some.inj e
    rcases hat with h3 | h3
    · exact (h2 hl a ha).2.2 (by rw [h3, e])
    · obtain ⟨a', cs, t, f, ha', hc⟩ := h1.cells hl
      rw [ha] at ha'
      cases ha'
      have := lt_of_heap hc
      omega
  exact {
    row := h.row.but hb hbm
    pend := h.pend.but hb ⟨fun b hb' e => by
        obtain ⟨_, cur, h2⟩ := own_blk h.sown e
        rcases h.pend with ⟨h1, _⟩ | ⟨b', D, h1, hp⟩
        · rw [h1] at hb'; cases hb'
        · rw [h1] at hb'; cases hb'; exact hp.ne h2 rfl, fun p cs f e h93 => by
        obtain ⟨_, cur, h2⟩ := own_blk h.sown e
        rw [h2] at h93
        cases h93⟩
    kown := own_move h.kown fun b hb' => hb.block b (own_lt h.kown hb') (fun e => hks b e hb')
    sown := by rw [stCells_step]; exact hown
    ent := fun j hj => by
      by_cases e : j = s
      · subst e
        simp only [upd, if_true]
        exact key A _ hW hA
      · simp only [upd, if_neg e]
        exact key _ _ (h.ent j (by omega)).1 (h.ent j (by omega)).2
    bl := But.below h.bl hb (fun j hj => by have := (own_blk h.sown hj).1; have := h.hm; omega) h.bl.size
    hm := h.hm }
/-- the two rows lie apart: their elements are of other types -/
theorem CoRel.apart (h : CoRel w m kk kd i q s pv kv sv Af cf wr) (b : Nat) (hk : kv.ownBlock = some b) : sv.ownBlock ≠ some b := fun e => by
  obtain ⟨_, c1, h1⟩ := own_blk h.kown hk
  obtain ⟨_, c2, h2⟩ := own_blk h.sown e
  rw [h1] at h2
  injection h2 with h2
  injection h2 with _ h2 _
  exact absurd h2 (by decide)
end
def ConPost (kk : Nat → Kp) (kd : Nat → Int) (n : Nat) (w : World) (e : Ending) (w' : World) : Prop :=
  ∃ base kv sv Af cf, e = .returned (.tuple #[kv, sv]) ∧ w'.ownsRow base 3 1 kv n (kdCells kd n) ∧ w'.ownsRow base 31 6 sv n (stCells kk Af cf n) ∧ (∀ j, j < n → WAt w' (Af j) (kk (j + 1)).waits) ∧ Below w.heap.size w w' ∧ w.heap.size ≤ base
theorem info31 : ∃ i : TypeInfo, Tryd.prog.info? 31 = some i ∧ i.zero = some (.agg #[.int .u64 0, .int .u64 0, .int .u64 0, .int .u64 0, .slice none 0 0, .slice none 0 0]) ∧ i.size = 6 ∧ i.bytes = 80 := ⟨(Tryd.prog.info? 31).get (by kernel_rfl), by kernel_rfl, by kernel_rfl, by kernel_rfl, by kernel_rfl⟩
theorem info3 : ∃ i : TypeInfo, Tryd.prog.info? 3 = some i ∧ i.zero = some (.int .i64 0) ∧ i.size = 1 ∧ i.bytes = 8 := ⟨(Tryd.prog.info? 3).get (by kernel_rfl), by kernel_rfl, by kernel_rfl, by kernel_rfl, by kernel_rfl⟩

set_option maxHeartbeats 2000000 in
set_option maxRecDepth 100000 in
theorem consumer_any (A : Option Addr) (n cap : Nat) (dd : Nat → Dd) (kk : Nat → Kp) (kd : Nat → Int) (te : TypeId) (ve : Value) (w : World) (hA : DeedsAt w A n dd) (hn : n ≤ 1000) (h0 : kk 0 = Cs.k0) (hG : ∀ i, i ≤ n → Good (kk i)) (hD : ∀ i, i < n → Does (kk i) (dd i) (kk (i + 1)) (kd i))
    (hE : w.cell? ⟨1, 0, none⟩ = some (.iface te ve)) : Calls Tryd.prog 9 #[.int .i64 2, .slice A n cap] w (ConPost kk kd n w) := by
  have HA := Lib.hid (And.intro hA (And.intro h0 (And.intro hG (And.intro hD hE))))
  clear hA h0 hG hD hE
  have h15 := new_any 2 w
  go_enter Tryd.func9, Tryd.ntmps9
  go_wp2_with fail
  refine h15.mono ?_
  rintro e w1 ⟨m, rfl, hm, hR, hb⟩
  obtain ⟨i3, hi3, hz3, hs3, hy3⟩ := info3
  obtain ⟨i31, hi31, hz31, hs31, hy31⟩ := info31
  have HI := Lib.hid (And.intro hi3 (And.intro hz3 (And.intro hs3 (And.intro hy3 (And.intro hi31 (And.intro hz31 (And.intro hs31 hy31)))))))
  have H1 := Lib.hid (show CoRel w m kk kd 0 0 0 (.map none) (.slice none 0 0) (.slice none 0 0) (fun _ => none) (fun _ => 0) w1 from
    { row := (by rw [HA.out.2.1]; exact hR), pend := Or.inl ⟨rfl, by rw [HA.out.2.1]; rfl⟩, kown := World.ownsRow_nil _ _ _ _, sown := World.ownsRow_nil _ _ _ _, ent := (fun j hj => absurd hj (Nat.not_lt_zero j)), bl := hb, hm := hm })
  clear hm hR hb h15 hi3 hz3 hs3 hy3 hi31 hz31 hs31 hy31
  go_wp2_with fail
  go_loopw [4, 5, 7, 8, 9] (fun kv sv i _ _ wr => ∃ (j : Nat) (pv : Value) (Af : Nat → Option Addr) (cf : Nat → Nat), i = .int .i64 (j : Int) ∧ j ≤ n ∧ Hid (CoRel w m kk kd j j j pv kv sv Af cf wr) ∧ (∀ b, pv = .map (some b) → w.heap.size ≤ b)) (fun _ _ i _ _ _ => n - (intOf i).toNat)
  case atStart => exact ⟨0, _, _, _, rfl, by omega, H1, fun b h => absurd h (by simp)⟩
  case round =>
    obtain ⟨j, pv, Af, cf, rfl, hj, HREL, hpm⟩ := hrel
    by_cases hlt : j < n
    · obtain ⟨b, o, rfl, hbl, hcs⟩ := HA.out.1 (by omega)
      have hE := HA.out.2.2.2.2
      have hbelow := HREL.out.bl
      have hld : (Instr.loadAt 37 (.pointer (some ⟨b, o + j * 11, none⟩))).run Tryd.prog wr = .ok (.agg (dd j).row) wr := load_deed (dd j) (fun q v hv => (hbelow.cell (p := ⟨b, o + j * 11 + q, none⟩) hbl).trans (hcs j hlt q v hv))
      have hEr : wr.cell? ⟨1, 0, none⟩ = some (.iface te ve) := (hbelow.cell (p := ⟨1, 0, none⟩) (World.block_lt_of_cell? _ _ hE)).trans hE
      have h17 := act_any m j (dd j) (kd j) pv te ve (kk j) (kk (j + 1)) wr HREL.out.row HREL.out.pend (by omega) (HA.out.2.2.1 j hj) hEr (HA.out.2.2.2.1 j hlt)
      have hj0 : (0 : Int) ≤ (j : Int) := by omega
      have hj1 : (j : Int) < (n : Int) := by omega
      have HJ := Lib.hid (And.intro hj (And.intro hlt hpm))
      clear hE hEr hbelow hcs hj hlt hpm
      go_wp2_with (refine wpList_load_eq rfl 37 (.tmp 23) rfl _ _ rfl hld ?_)
      refine h17.mono ?_
      rintro e w2 ⟨ev, rfl, hkd, pv', hR2, hP2, hb2, hn2⟩
      have H2 := Lib.hid (HREL.out.acted hR2 hP2 hb2 HJ.out.2.2)
      have hpm2 : ∀ b, pv' = .map (some b) → w.heap.size ≤ b := fun b hb => by
        rcases hn2 b hb with h | h
        · exact HJ.out.2.2 b h
        · have := HREL.out.bl.size; omega
      have HPM := Lib.hid hpm2
      have h16 := one_any te ve ev (kd j) hkd w2
      clear hR2 hP2 hb2 hn2 hpm2 h17 hkd hld
      go_wp2_with fail
      refine h16.mono ?_
      rintro e w2' ⟨rfl, rfl⟩
      have hf2 := H2.out.fresh ((But.refl (fun _ => False) w2').alloc (.cells #[.int .i64 (kd j)] 3))
      have HF2 := Lib.hid hf2
      clear hf2 h16
      go_wp2_with (at_builtin; refine wpList_append_lies _ rfl _ _ _ rfl (m + 1) 3 i3 (.int .i64 0) 1 8 Tryd.underlying22 HI.out.1 HI.out.2.1 HI.out.2.2.1 HI.out.2.2.2.1 rfl (by omega) u4 j (kdCells kd j) rfl HF2.out.kown ⟨w2'.heap.size, 0, none⟩ 1 1 [.int .i64 (kd j)] rfl rfl (K.cells_one _ _ _) (by intro u hu; simp at hu; subst hu; rfl) (by omega) (by have := HJ.out.2.1; unfold maxLen; omega) (by have := HJ.out.2.1; omega) (by have := HF2.out.row.lt; omega) _ rfl ?_; intro g3 cp3 w3 hown3 hgrow3 hat3 hlt3; have HF3 := Lib.hid (HF2.out.kinds hown3 hgrow3 hat3 (fun b hb => HF2.out.apart b hb)); clear hown3 hgrow3 hat3 hlt3)
      have hg1 := HA.out.2.2.1 (j + 1) HJ.out.2.1
      have HG1 := Lib.hid hg1
      have h18 := state_any m (j + 1) pv' (kk (j + 1)) 2 w3 HF3.out.row HF3.out.pend (by omega) hg1.fits
      clear hg1
      refine h18.mono ?_
      rintro e w4 ⟨sb, pv4, rfl, hsb, hK4, hP4, hR4, hb4, hn4⟩
      have hr4 : CoRel w m kk kd (j + 1) (j + 1) j pv' (.slice (some ⟨g3, 0, none⟩) (j + 1) cp3) u5 Af cf w4 := by
        have hpp : Pend w4 pv' (j + 1) (kk (j + 1)).waits := HF3.out.pend.but hb4 (far_m HF3.out.row HF3.out.pend)
        exact HF3.out.acted hR4 hpp (hb4.mono (fun _ _ h => Or.inl h)) HPM.out
      have h19 := keep_any sb (j + 1) pv4 (kk (j + 1)) w4 hK4 hP4 HG1.out.fits HG1.out.len
      have HF4 := Lib.hid hr4
      clear h18 hsb hK4 hP4 hR4 hb4 hn4 hr4
      go_wp2_with fail
      refine h19.mono ?_
      rintro e w5 ⟨A5, cap5, rfl, hW5, hB5, hA5⟩
      have hr5 := HF4.out.fresh (But.of hB5)
      have hent5 : (kk (j + 1)).waits ≠ [] → ∀ a, A5 = some a → m < a.block ∧ (Value.slice (some ⟨g3, 0, none⟩) (j + 1) cp3).ownBlock ≠ some a.block ∧ u5.ownBlock ≠ some a.block := fun _ a ha => by
        have h1 := hA5 a ha
        have h2 := HF4.out.row.lt
        refine ⟨by omega, fun e => ?_, fun e => ?_⟩
        · have := own_lt HF4.out.kown e; omega
        · have := own_lt HF4.out.sown e; omega
      have hb6 := (But.refl (fun _ => False) w5).alloc (.cells #[.int .u64 ((kk (j + 1)).dc : Int), .int .u64 ((kk (j + 1)).ds : Int), .int .u64 ((kk (j + 1)).fc : Int), .int .u64 ((kk (j + 1)).fs : Int), .slice A5 (kk (j + 1)).waits.length cap5, .slice none 0 0] 31)
      have HF5 := Lib.hid (And.intro (hr5.fresh hb6) (And.intro (hW5.but hb6 (fun _ _ h => h)) hent5))
      have hnw6 : (w5.alloc (.cells #[.int .u64 ((kk (j + 1)).dc : Int), .int .u64 ((kk (j + 1)).ds : Int), .int .u64 ((kk (j + 1)).fc : Int), .int .u64 ((kk (j + 1)).fs : Int), .slice A5 (kk (j + 1)).waits.length cap5, .slice none 0 0] 31)).heap[w5.heap.size]? = _ := K.heap_alloc_at _ _
      have HNW := Lib.hid hnw6
      clear hr5 hent5 hb6 h19 hW5 hB5 hA5 hnw6
      unfold keepV
      go_wp2_with (at_builtin; refine wpList_append_lies _ rfl _ _ _ rfl (m + 1) 31 i31 (.agg #[.int .u64 0, .int .u64 0, .int .u64 0, .int .u64 0, .slice none 0 0, .slice none 0 0]) 6 80 Tryd.underlying38 HI.out.2.2.2.2.1 HI.out.2.2.2.2.2.1 HI.out.2.2.2.2.2.2.1 HI.out.2.2.2.2.2.2.2 rfl (by omega) u5 j (stCells kk Af cf j) rfl HF5.out.1.sown ⟨w5.heap.size, 0, none⟩ 1 1 (keepCells (kk (j + 1)) A5 cap5) rfl rfl (World.news_of_block HNW.out) (by simp [keepCells, Value.oneCell']) (by omega) (by have := HJ.out.2.1; unfold maxLen; omega) (by have := HJ.out.2.1; omega) (by have := HF5.out.1.row.lt; omega) _ rfl ?_; intro g6 cp6 w6 hown6 hgrow6 hat6 hlt6; have HF6 := Lib.hid (HF5.out.1.states hown6 hgrow6 hat6 (fun b hb hk => HF5.out.1.apart b hk hb) HF5.out.2.1 HF5.out.2.2); clear hown6 hgrow6 hat6 hlt6)
      go_roundw
      case rel => exact ⟨j + 1, _, _, _, by go_num, HJ.out.2.1, HF6, HPM.out⟩
      case measure => have := HJ.out.2.1; simp [intOf]; omega
    · obtain rfl : j = n := by omega
      go_wp2_with fail
      go_ret2
      exact ⟨_, _, _, Af, cf, rfl, HREL.out.kown, HREL.out.sown, fun i hi => (HREL.out.ent i hi).1, HREL.out.bl, by have := HREL.out.hm; omega⟩
end Go.Proofs.YtchphfdoneckeaaDoor
