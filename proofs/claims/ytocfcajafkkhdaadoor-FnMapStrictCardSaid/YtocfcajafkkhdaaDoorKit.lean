/-
  Plain lemmas on worlds, slices and rows of laws, of no program: what lies in a slice of one-cell elements, what is as it was below a block, and how a law's row is closed ('it returns true; each argument reads as before').
-/
import Derived.WalkKit
import Derived.ProofKit
import Derived.OpenShut
import Derived.JoinedCond
import Derived.Lib.Hide
import Derived.Lib.ConvBytes
import Derived.SliceStrings
import Derived.Deep.LoopGhost
import Derived.Deep.Quiet
import Derived.Deep.QuietTactic
import Derived.BigQuiet
import Derived.ChangeSame
import Derived.Stop.LaidErr
import Derived.Stop.Joined
import Derived.MakeChecks
namespace Go.Proofs.YtocfcajafkkhdaaDoor.K
open Go.RowKit Go.WideShapes Go.ChangeShapes

/-! ## Worlds -/
theorem below_drewN {B : Nat} {a w : World} (h : Below B a w) (n : Nat) : Below B a (w.drewN n) := ⟨h.os, h.tape, h.output, h.size, h.block⟩

theorem heap_setCell_at {w : World} {g i : Nat} {cs : Array Value} {t : TypeId} {fz : Nat × Nat} (h : w.heap[g]? = some (.cells cs t fz)) (u : Value) :
    (w.setCell ⟨g, i, none⟩ u).heap[g]? = some (.cells (cs.setIfInBounds i u) t fz) := by
  simp [World.setCell, Array.getElem?_modify, h]

theorem heap_alloc_at (w : World) (o : Obj) : (w.alloc o).heap[w.heap.size]? = some o := by
  show (w.heap.push o)[w.heap.size]? = _
  simp

theorem results_tmp4 {fn : Func} {t u v x : Tmp} (h : fn.results = #[.tmp t, .tmp u, .tmp v, .tmp x]) (tmps : Array Value) (P : Program) (w : World) :
    (results fn tmps).run P w = .ok (.tuple #[tmps.getD t undef, tmps.getD u undef, tmps.getD v undef, tmps.getD x undef]) w := by simp [results, h]

theorem bytesWorld_below (w : World) (e : TypeId) (s : ByteArray) : Below w.heap.size w (Lib.bytesWorld w e s) := by
  refine ⟨?_, ?_, ?_, by rw [Lib.bytesWorld_size]; omega, fun k hk => Lib.bytesWorld_at_old w e s k hk⟩ <;>
  · unfold Lib.bytesWorld World.freeze
    split <;> rfl

/-! ## Bytes -/
theorem bsize (s : ByteArray) : s.data.toList.length = s.size := by rw [Array.length_toList]; rfl
theorem bapp (s t : ByteArray) : (s ++ t).data.toList = s.data.toList ++ t.data.toList := by simp
theorem bmk (s : ByteArray) : (⟨s.data.toList.toArray⟩ : ByteArray) = s := by cases s; simp
theorem drop_at (s : ByteArray) (k : Nat) (h : k < s.size) : s.data.toList.drop k = s[k] :: s.data.toList.drop (k + 1) := by
  rw [List.drop_eq_getElem_cons (by rw [bsize]; exact h)]
  rfl
theorem getD_drop (bs : List UInt8) (k : Nat) (h : k < bs.length) : bs.drop k = bs.getD k 0 :: bs.drop (k + 1) := by
  rw [List.drop_eq_getElem_cons h]
  simp [List.getD, h]

/-! ## Slices of one-cell elements -/
/-- A slice of n one-cell elements at A: element j reads f j. -/
def Lies (w : World) (A : Option Addr) (n : Nat) (f : Nat → Value) : Prop :=
  0 < n → ∃ ab ao, A = some ⟨ab, ao, none⟩ ∧ ab < w.heap.size ∧ ∀ j, j < n → w.cell? ⟨ab, ao + j, none⟩ = some (f j)
theorem Lies.below {w w' : World} {B : Nat} {A : Option Addr} {n : Nat} {f : Nat → Value} (h : Lies w A n f) (hb : Below B w w') (hB : w.heap.size ≤ B) : Lies w' A n f := by
  intro hn
  obtain ⟨ab, ao, e, hlt, hc⟩ := h hn
  exact ⟨ab, ao, e, Nat.lt_of_lt_of_le hlt hb.size, fun j hj => (hb.cell (p := ⟨ab, ao + j, none⟩) (Nat.lt_of_lt_of_le hlt hB)).trans (hc j hj)⟩
def strs (ss : List ByteArray) (j : Nat) : Value := .string (ss.getD j ByteArray.empty)
def nums (k : IntKind) (zs : List Int) (j : Nat) : Value := .int k (zs.getD j 0)
theorem lies_one (W : World) (s : ByteArray) (t : TypeId) : Lies (W.alloc (.cells #[.string s] t)) (some ⟨W.heap.size, 0, none⟩) 1 (strs [s]) := by
  intro _
  refine ⟨_, _, rfl, by simp, fun j hj => ?_⟩
  have : j = 0 := by omega
  subst this
  rw [World.cell?_alloc_at _ _ _ _ (by simp)]; rfl
theorem lies_two (W : World) (s s' : ByteArray) (t : TypeId) : Lies (W.alloc (.cells #[.string s, .string s'] t)) (some ⟨W.heap.size, 0, none⟩) 2 (strs [s, s']) := by
  intro _
  refine ⟨_, _, rfl, by simp, fun j hj => ?_⟩
  rw [World.cell?_alloc_at _ _ _ _ (by simp)]
  match j, hj with
  | 0, _ => rfl
  | 1, _ => rfl

/-- what the call owns, read as a slice -/
theorem lies_of_own {w : World} {base : Nat} {e : TypeId} {v : Value} {n : Nat} {xs : List Value} (h : w.ownsRow base e 1 v n xs) :
    ∃ A cap, v = .slice A n cap ∧ n ≤ cap ∧ xs.length = n ∧ Lies w A n (fun j => xs.getD j undef) ∧ (∀ a, A = some a → base ≤ a.block) := by
  have hlen : xs.length = n := by simpa using h.1
  rcases h.2 with ⟨rfl, rfl⟩ | ⟨g, cap, cur, rfl, hb, hg, hnc, _, _, htake⟩
  · exact ⟨none, 0, rfl, Nat.le_refl _, hlen, fun h => by omega, fun a h => by cases h⟩
  · refine ⟨_, cap, rfl, hnc, hlen, fun _ => ⟨g, 0, rfl, (Array.getElem?_eq_some_iff.1 hg).1, fun j hj => ?_⟩, fun a ha => by injection ha with ha; subst ha; exact hb⟩
    have hx : xs[j]? = some (xs.getD j undef) := by
      rw [List.getD, List.getElem?_eq_getElem (by omega)]; rfl
    have := h.cells (g := g) rfl j _ hx
    rwa [Addr.add_lit] at this

theorem cells_one (W : World) (v : Value) (t : TypeId) : ∀ j u, ([v] : List Value)[j]? = some u → (W.alloc (.cells #[v] t)).cell? ((⟨W.heap.size, 0, none⟩ : Addr).add j) = some u := by
  intro j u hj
  match j, hj with
  | 0, hj =>
    simp at hj
    subst hj
    rw [Addr.add_lit, World.cell?_alloc_at _ _ _ _ (by simp)]; rfl

/-! ## Posts -/
/-- It returns some bool; where that is true, P. The world is as it was. -/
def SomeBool (P : Prop) (w : World) (e : Ending) (w' : World) : Prop := ∃ b : Bool, e = .returned (.bool b) ∧ w = w' ∧ (b = true → P)
theorem SomeBool.mk {P : Prop} {w : World} (b : Bool) (h : b = true → P) : SomeBool P w (.returned (.bool b)) w := ⟨b, rfl, rfl, h⟩
/-- It returns true; what was there is as it was. -/
def Yes (w : World) (e : Ending) (w' : World) : Prop := e = .returned (.bool true) ∧ Below w.heap.size w w'

/-! ## A drawn region that reads, and whose calls make memory: one walk in the order of the text -/
/-- 'W' with more behind it. -/
def Grew (W w' : World) : Prop := Below W.heap.size W w'
theorem Grew.refl (W : World) : Grew W W := Below.refl _ _
theorem Grew.drew0 (W : World) : Grew W { W with drawn := W.drawn + 1 } := ⟨rfl, rfl, rfl, Nat.le_refl _, fun _ _ => rfl⟩
theorem Grew.then {W w w' : World} (h : Grew W w) (h' : Below w.heap.size w w') : Grew W w' := Below.trans h (Below.mono h' (Below.size h))
theorem Grew.cell {W w : World} (h : Grew W w) {b o : Nat} {v : Value} (hc : W.cell? ⟨b, o, none⟩ = some v) : w.cell? ⟨b, o, none⟩ = some v :=
  (Below.cell h (p := ⟨b, o, none⟩) (World.block_lt_of_cell? W _ hc)).trans hc
theorem wp_region_grew {P : Program} {id : Nat} {Q : Exit → Act → World → Prop} {a : Act} {W : World} {l : List Oper} (hm : P.follows .mixedOrders = true) (hB : Region.lexB .any l.toArray = true)
    (h : wpQuiet P l.toArray (Grew W) (fun a' => ∀ w', Grew W w' → Q .normal a' w') l a) : (Code.region id l.toArray true).wp P Q a W :=
  wp_region_quiet (C := Grew W) hm hB (Grew.drew0 W) (by simpa using h)
theorem quiet_load {P : Program} {C : World → Prop} {o : Oper} {a : Act} {K : Act → Prop} (t : TypeId) (x : Operand) (h : o.op = .load t x) (p : Addr) (hx : a.eval x = .pointer (some p)) (v : Value)
    (hrun : ∀ w, C w → (Instr.loadAt t (.pointer (some p))).run P w = .ok v w) (hk : K (a.put o.dst v)) : o.quiet P a C K :=
  ⟨v, fun w hw => by
    unfold Oper.quietAt
    have hr : (execOp a.eval o).run P w = .ok (.value v) w := by
      unfold execOp
      rw [h]
      simp only [hx]
      have := hrun w hw
      simp [this]
    rw [hr]
    exact ⟨rfl, rfl⟩, hk⟩

theorem quiet_cell {P : Program} {W : World} {b j : Nat} {v : Value} {o : Oper} {a : Act} {K : Act → Prop} (hc : W.cell? ⟨b, j, none⟩ = some v) (t : TypeId) (x : Operand) (h : o.op = .load t x) (hx : a.eval x = .pointer (some ⟨b, j, none⟩))
    (hrun : ∀ w : World, w.cell? ⟨b, j, none⟩ = some v → (Instr.loadAt t (.pointer (some ⟨b, j, none⟩))).run P w = .ok v w) (hk : K (a.put o.dst v)) : o.quiet P a (Grew W) K :=
  quiet_load t x h ⟨b, j, none⟩ hx v (fun w hw => hrun w (Grew.cell hw hc)) hk

/-! ## A law's row -/
section
variable {H : Type} {enc : TypeId × Value → H} {P : Program}
theorem args_back (hl : laidOutB P = true) {W W' : World} (hb : Below W.heap.size W W') {sp : Nat → Bool} : ∀ {ts : List TypeId} {vs : List Value} {ds : List (DataW H)} {p : List MemPlace},
    ts.all (fun t => P.readableRec t && decide (t < P.types.size)) = true → DataW.TrodAll enc P W 0 (fun _ => true) true ts vs ds p → (∀ x ∈ p, x.block < W.heap.size) → (∀ x ∈ p, sp x.block = true) → DataW.TrodAll enc P W' 0 sp true ts vs ds p
  | [], vs, ds, p, _, h, _, _ => by
    obtain ⟨rfl, rfl, rfl⟩ := trodAll_nil h
    exact trodAll_mk0
  | t :: ts, vs, ds, p, hts, h, hlt, hsp => by
    obtain ⟨v, vs', d, ds', p1, q1, rfl, rfl, rfl, h1, h2⟩ := trodAll_cons h
    simp only [List.all_cons, Bool.and_eq_true, decide_eq_true_eq] at hts
    refine trodAll_cons_mk (WideElems.Trod_stays hl hts.1.1 hts.1.2 h1 (fun x hx => hb.same (hlt x (List.mem_append_left _ hx))) (fun x hx => hsp x (List.mem_append_left _ hx)))
      (args_back hl hb (by simpa using hts.2) h2 (fun x hx => hlt x (List.mem_append_right _ hx)) (fun x hx => hsp x (List.mem_append_right _ hx)))

theorem post_of_below {f : Func} {s : ChangeSpec} {apart fresh handsOn again : Bool} {W W' : World} {args : Array Value} {v : Value} {ds gs : List (DataW H)} {before pa pv : List MemPlace}
    (hW : DataW.Whole enc P f.params.toList s.vars apart W args.toList ds gs before)
    (hres : ∀ (b : Nat) (sp : Nat → Bool) (hd : Bool), DataW.TrodAll enc P W' b sp hd f.resultTypes.toList (v.resultList f.resultTypes.size) (s.fn H (ds ++ gs)).results [])
    (hargs : ∀ sp : Nat → Bool, (∀ p ∈ before, sp p.block = true) → DataW.TrodAll enc P W' 0 sp true f.params.toList args.toList (s.fn H (ds ++ gs)).args pa)
    (hvars : ∀ sp : Nat → Bool, (∀ p ∈ before, sp p.block = true) → DataW.TrodVars enc P W' sp s.vars (s.fn H (ds ++ gs)).vars pv)
    (hps : before = pa ++ pv) (hb : Below W.heap.size W W')
    (hok : ∀ (j : Nat) (t : TypeId) (r : Value), f.resultTypes[j]? = some t → (v.resultList f.resultTypes.size)[j]? = some r → Value.okWide P W' .any 0 t r) :
    s.post enc P f apart fresh handsOn again W args v W' := by
  have hlt : ∀ p ∈ before, p.block < W.heap.size := fun p hp => hW.lt p hp
  have hold : ∀ p ∈ before, (fun b => decide (b < W.heap.size)) p.block = true := fun p hp => by simpa using hlt p hp
  refine ⟨ds, gs, before, [], pa, pv, hW, hres _ _ _, hargs _ hold, hvars _ hold, World.keptBut_mono (fun p hp => ⟨hp, ?_⟩) (hb.frame (· ∈ before)), fun _ => ?_⟩
  · rw [hps, List.mem_append] at hp
    exact Or.inr hp
  · obtain ⟨_, _, _, _, _, hz, hn⟩ := hW
    refine ⟨hok, _, _, ([] ++ pa) ++ pv, ⟨[] ++ pa, pv, trodAll_append (hargs _ (fun _ _ => rfl)) (hres _ _ _), hvars _ (fun _ _ => rfl), rfl, ?_, ?_⟩, ?_⟩
    · intro b off hp
      have hin : MemPlace.cell b off ∈ before := by rw [hps]; simpa using hp
      rw [hb.frozen (hlt _ hin)]
      exact hz b off hin
    · intro ha
      have := hn ha
      rw [hps] at this
      simpa using this
    · intro p hp _
      rw [hps]
      simpa using hp

/-- THE ROW's POST OF A LAW THAT RETURNS true AND LEAVES WHAT WAS THERE. -/
theorem post_law {f : Func} {s : ChangeSpec} {tb : TypeId} {apart fresh handsOn again : Bool} {W W' : World} {args : Array Value} {ds : List (DataW H)} {before : List MemPlace}
    (hl : laidOutB P = true) (htb : P.underlying tb = some .bool) (hrt : f.resultTypes = #[tb]) (hts : f.params.toList.all (fun t => P.readableRec t && decide (t < P.types.size)) = true) (hvars : s.vars = [])
    (hfn : s.fn H ds = { results := [.lit (.bool true)], args := ds, vars := [] })
    (hok : ∀ W : World, ∀ (j : Nat) (t : TypeId) (r : Value), f.resultTypes[j]? = some t → ((Value.bool true).resultList f.resultTypes.size)[j]? = some r → Value.okWide P W .any 0 t r)
    (hW : DataW.Whole enc P f.params.toList s.vars apart W args.toList ds [] before) (hb : Below W.heap.size W W') :
    s.post enc P f apart fresh handsOn again W args (.bool true) W' := by
  have hlt : ∀ p ∈ before, p.block < W.heap.size := fun p hp => hW.lt p hp
  obtain ⟨p, q, hA, hV, rfl, hz, hn⟩ := id hW
  rw [hvars] at hV
  obtain ⟨_, rfl⟩ := trodVars_none hV
  have hfn' : s.fn H (ds ++ []) = { results := [.lit (.bool true)], args := ds, vars := [] } := by rw [List.append_nil]; exact hfn
  refine post_of_below (pa := p) (pv := []) hW (fun b sp hd => ?_) (fun sp hsp => ?_) (fun sp _ => ?_) rfl hb (hok W')
  · rw [hfn', hrt]
    exact trodAll_cons_mk (shut_bool htb true) trodAll_mk0
  · rw [hfn']
    exact args_back hl hb hts hA (fun x hx => hlt x (by simpa using hx)) (fun x hx => hsp x (by simpa using hx))
  · rw [hfn', hvars]
    rfl
end

/-! ## Opening slices of a law's arguments -/
section
variable {H : Type} {enc : TypeId × Value → H} {P : Program} {W : World}
theorem addr_add (a : Addr) (h : a.spot = none) (j : Nat) : a.add j = ⟨a.block, a.off + j, none⟩ := by
  obtain ⟨b, o, s⟩ := a
  simp only at h
  subst h
  unfold Addr.add
  split
  · rename_i h0; simp [h0]
  · rfl

/-- a []string among the arguments -/
theorem open_strs {t e : TypeId} {v : Value} {d : DataW H} {p : List MemPlace} (ht : P.underlying t = some (.slice e)) (he : P.underlying e = some .string) (hc : P.cellsOf e = 1)
    (hval : Value.okWide P W .any 0 t v) (h : DataW.Trod enc P W 0 (fun _ => true) true t v d p) :
    ∃ (A : Option Addr) (n cap : Nat) (ss : List ByteArray), v = .slice A n cap ∧ ss.length = n ∧ n ≤ maxLen ∧ Lies W A n (strs ss) ∧ (∀ s ∈ ss, s.size ≤ maxLen) ∧
      ((A = none ∧ n = 0 ∧ cap = 0 ∧ d = .nil) ∨ ∃ sp, d = .slice (ChangeShapes.strs ss) sp ∧ n + sp.length = cap) := by
  obtain ⟨A, n, cap, rfl⟩ := okWide_slice ht hval
  obtain ⟨fuel, hf⟩ := h
  rcases open_strings ht he hc hf with ⟨hcs, hx⟩ | ⟨a, len', cap', ss, hcs, _, hlc, hm, hz, hx, hcell, hws⟩
  · simp [Value.cells] at hcs
    obtain ⟨rfl, rfl, rfl⟩ := hcs
    injection hx with hx1 _
    exact ⟨none, 0, 0, [], rfl, rfl, by unfold maxLen; omega, fun h => by omega, fun _ h => by simp at h, .inl ⟨rfl, rfl, rfl, hx1⟩⟩
  · simp [Value.cells] at hcs
    obtain ⟨rfl, rfl, rfl⟩ := hcs
    simp only [if_true] at hz
    injection hx with hx1 _
    refine ⟨some a, n, cap, ss.take n, rfl, by rw [List.length_take]; omega, by omega, fun hn => ?_, fun s hs => hws s (List.mem_of_mem_take hs), .inr ⟨_, hx1, by simp [ChangeShapes.strs]; omega⟩⟩
    have hsp : a.spot = none := by
      have h0 := hcell 0 (by omega)
      unfold World.cell? at h0
      have e0 : (a.add 0) = a := by unfold Addr.add; simp
      rw [e0] at h0
      split at h0
      · split at h0
        · cases h0
        · rename_i hns; simpa using hns
      · cases h0
    obtain ⟨ab, ao, sp⟩ := a
    simp only at hsp
    subst hsp
    refine ⟨ab, ao, rfl, ?_, fun j hj => ?_⟩
    · have h0 := hcell 0 (by omega)
      exact World.block_lt_of_cell? W _ h0
    · have h0 := hcell j (by omega)
      rw [addr_add _ rfl] at h0
      rw [h0]
      simp [strs, List.getD, hj]

theorem spot_none {a : Addr} {v : Value} (h0 : W.cell? (a.add 0) = some v) : a.spot = none := by
  unfold World.cell? at h0
  have e0 : (a.add 0) = a := by unfold Addr.add; simp
  rw [e0] at h0
  split at h0
  · split at h0
    · cases h0
    · rename_i hns; simpa using hns
  · cases h0

/-- a slice of whole numbers among the arguments -/
theorem open_nums {t e : TypeId} {k : IntKind} {v : Value} {d : DataW H} {p : List MemPlace} (ht : P.underlying t = some (.slice e)) (he : P.underlying e = some (.int k)) (hc : P.cellsOf e = 1)
    (hval : Value.okWide P W .any 0 t v) (h : DataW.Trod enc P W 0 (fun _ => true) true t v d p) :
    ∃ (A : Option Addr) (n cap : Nat) (zs : List Int), v = .slice A n cap ∧ zs.length = n ∧ n ≤ maxLen ∧ Lies W A n (nums k zs) ∧ (∀ z ∈ zs, (Lit.int k z).wf = true) ∧
      ((A = none ∧ n = 0 ∧ cap = 0 ∧ d = .nil) ∨ ∃ sp, d = .slice (lits k zs) sp ∧ n + sp.length = cap) := by
  obtain ⟨A, n, cap, rfl⟩ := okWide_slice ht hval
  obtain ⟨fuel, hf⟩ := h
  rcases open_ints ht he hc hf with ⟨hcs, hx⟩ | ⟨a, len', cap', zs, hcs, _, hlc, hm, hz, hx, hcell, hws⟩
  · simp [Value.cells] at hcs
    obtain ⟨rfl, rfl, rfl⟩ := hcs
    injection hx with hx1 _
    exact ⟨none, 0, 0, [], rfl, rfl, by unfold maxLen; omega, fun h => by omega, fun _ h => by simp at h, .inl ⟨rfl, rfl, rfl, hx1⟩⟩
  · simp [Value.cells] at hcs
    obtain ⟨rfl, rfl, rfl⟩ := hcs
    simp only [if_true] at hz
    injection hx with hx1 _
    refine ⟨some a, n, cap, zs.take n, rfl, by rw [List.length_take]; omega, by omega, fun hn => ?_, fun z hz => hws z (List.mem_of_mem_take hz), .inr ⟨_, hx1, by simp [lits]; omega⟩⟩
    have hsp : a.spot = none := spot_none (hcell 0 (by omega))
    obtain ⟨ab, ao, sp⟩ := a
    simp only at hsp
    subst hsp
    refine ⟨ab, ao, rfl, ?_, fun j hj => ?_⟩
    · have h0 := hcell 0 (by omega)
      exact World.block_lt_of_cell? W _ h0
    · have h0 := hcell j (by omega)
      rw [addr_add _ rfl] at h0
      rw [h0]
      simp [nums, List.getD, hj]

/-- what a listed sentinel gives a walk: its variable holds an interface value that is not nil -/
theorem laid_iface {n nm : String} {d : DataW Unit} {r : List (String × DataW Unit)} {g : Nat} {ti : TypeId} {ms : Array (String × TypeId)}
    (h : laidMet P ((n, .iface nm d) :: r) W) (hg : P.globalNamed n = some g) (ht : (P.globals[g]?).map (·.type) = some ti) (hi : P.underlying ti = some (.interface ms)) :
    ∃ te ve, W.cell? ⟨g, 0, none⟩ = some (.iface te ve) := by
  obtain ⟨ps, ⟨g0, t0, cs0, f0, p0, q0, hg0, ht0, hv0, hd0, _, e0⟩, _, hrows⟩ := h
  obtain rfl := Option.some.inj (hg.symm.trans hg0)
  obtain rfl := Option.some.inj (ht.symm.trans ht0)
  obtain ⟨f1, u, v, hcs, hn, h1⟩ := iface_of_trod hi hd0
  refine ⟨u, v, ?_⟩
  have := World.var?_cell hg0 hv0 0
  rw [this, ← Array.getElem?_toList, hcs]
  rfl
end
end Go.Proofs.YtocfcajafkkhdaaDoor.K
