/-
  Names as blocks that the call itself has made: an attribute, a part, a row of parts; what keeps them; that they read as the package's structures.
-/
import Derived.Test.YtnjjhklefamaoaaDoorPtr
import Derived.OwnWalk
import Derived.Laws.OwnMore
namespace Go.Proofs.YtnjjhklefamaoaaDoor
open Go.RowKit
open Dn (Attr Name)

abbrev All : Nat → Prop := fun _ => True
theorem info50 : (Tryd.prog.info? 50).map (fun i => (i.zero, i.size, i.bytes)) = some (some (.pointer none), 1, 8) := by kernel_rfl
theorem u45 : Tryd.prog.underlying 45 = some (.slice 50) := by kernel_rfl
theorem info48 : (Tryd.prog.info? 48).map (fun i => (i.zero, i.size, i.bytes)) = some (some (.pointer none), 1, 8) := by kernel_rfl
theorem u42 : Tryd.prog.underlying 42 = some (.slice 48) := by kernel_rfl

/-- a block with an attribute; its number is of S -/
def ABlk (w : World) (S : Nat → Prop) (v : Value) (a : Attr) : Prop := ∃ b, S b ∧ v = .pointer (some ⟨b, 0, none⟩) ∧ w.heap[b]? = some (.cells #[.string a.1, .string a.2] 49 (0, 0))
def RowS (w : World) (S : Nat → Prop) (e : TypeId) (u : Value) (n : Nat) (ps : List Value) : Prop := w.ownsRow 0 e 1 u n ps ∧ ∀ g, u.ownBlock = some g → S g
def RBlk (w : World) (S : Nat → Prop) (v : Value) (l : List Attr) : Prop :=
  ∃ b u ps, S b ∧ v = .pointer (some ⟨b, 0, none⟩) ∧ w.heap[b]? = some (.cells #[u] 47 (0, 0)) ∧ RowS w S 50 u l.length ps ∧ ∀ j, j < l.length → ABlk w S (ps.getD j undef) (atA l j)

/-- the blocks of S of the types of p are as they were, and of S' -/
def Keeps (p : TypeId → Prop) (S S' : Nat → Prop) (w w' : World) : Prop := ∀ b cs t fz, S b → p t → w.heap[b]? = some (.cells cs t fz) → w'.heap[b]? = some (.cells cs t fz) ∧ S' b
theorem ABlk.keep {p : TypeId → Prop} {S S' : Nat → Prop} {w w' : World} {v : Value} {a : Attr} (h : ABlk w S v a) (hk : Keeps p S S' w w') (hp : p 49) : ABlk w' S' v a := by
  obtain ⟨b, hs, e, hb⟩ := h
  obtain ⟨h1, h2⟩ := hk b _ _ _ hs hp hb
  exact ⟨b, h2, e, h1⟩
theorem row_block {w : World} {base : Nat} {e : TypeId} {u : Value} {n : Nat} {ps : List Value} (h : w.ownsRow base e 1 u n ps) {g : Nat} (hg : u.ownBlock = some g) : ∃ cur, w.heap[g]? = some (.cells cur e (0, 0)) := by
  rcases h.2 with ⟨rfl, _⟩ | ⟨g', cap, cur, rfl, _, hb, _⟩
  · simp [Value.ownBlock] at hg
  · simp [Value.ownBlock] at hg
    subst hg
    exact ⟨cur, hb⟩
theorem row_move {w w' : World} {base base' : Nat} {e : TypeId} {u : Value} {n : Nat} {ps : List Value} (h : w.ownsRow base e 1 u n ps) (hb : ∀ g, u.ownBlock = some g → base' ≤ g ∧ w'.heap[g]? = w.heap[g]?) : w'.ownsRow base' e 1 u n ps := by
  refine ⟨h.1, ?_⟩
  rcases h.2 with hn | ⟨g, cap, cur, rfl, _, hg, rest⟩
  · exact .inl hn
  · obtain ⟨h1, h2⟩ := hb g rfl
    exact .inr ⟨g, cap, cur, rfl, h1, h2.trans hg, rest⟩
theorem RowS.keep {p : TypeId → Prop} {S S' : Nat → Prop} {w w' : World} {e : TypeId} {u : Value} {n : Nat} {ps : List Value} (h : RowS w S e u n ps) (hk : Keeps p S S' w w') (hp : p e) : RowS w' S' e u n ps := by
  refine ⟨row_move h.1 fun g hg => ?_, fun g hg => ?_⟩
  · obtain ⟨cur, hb⟩ := row_block h.1 hg
    exact ⟨Nat.zero_le _, (hk g _ _ _ (h.2 g hg) hp hb).1.trans hb.symm⟩
  · obtain ⟨cur, hb⟩ := row_block h.1 hg
    exact (hk g _ _ _ (h.2 g hg) hp hb).2
theorem RBlk.keep {p : TypeId → Prop} {S S' : Nat → Prop} {w w' : World} {v : Value} {l : List Attr} (h : RBlk w S v l) (hk : Keeps p S S' w w') (h7 : p 47) (h9 : p 49) (h0 : p 50) : RBlk w' S' v l := by
  obtain ⟨b, u, ps, hs, e, hb, hr, ha⟩ := h
  obtain ⟨h1, h2⟩ := hk b _ _ _ hs h7 hb
  exact ⟨b, u, ps, h2, e, h1, hr.keep hk h0, fun j hj => (ha j hj).keep hk h9⟩

/-- what keeps blocks: more behind them; a row that is written; a cell that is written -/
theorem keeps_below {p : TypeId → Prop} {S : Nat → Prop} {w w' : World} (h : Below w.heap.size w w') : Keeps p S S w w' :=
  fun b _ _ _ hs _ hb => ⟨(h.block b (Array.getElem?_eq_some_iff.1 hb).1).trans hb, hs⟩
theorem keeps_grown {p : TypeId → Prop} {S : Nat → Prop} {w w' : World} {row : Option Nat} (h : w.grownBy w' row) (hr : ∀ g, row = some g → S g → ∀ cs t fz, w.heap[g]? = some (.cells cs t fz) → ¬ p t) : Keeps p S S w w' :=
  fun b _ _ _ hs hp hb => ⟨(h.block b (Array.getElem?_eq_some_iff.1 hb).1 (fun e => hr b e.symm hs _ _ _ hb hp)).trans hb, hs⟩
theorem keeps_set {p : TypeId → Prop} {S : Nat → Prop} {w : World} {g j : Nat} {u : Value} (hr : S g → ∀ cs t fz, w.heap[g]? = some (.cells cs t fz) → ¬ p t) : Keeps p S S w (w.setCell ⟨g, j, none⟩ u) := by
  intro b cs t fz hs hp hb
  refine ⟨?_, hs⟩
  by_cases h : g = b
  · subst h; exact absurd hp (hr hs _ _ _ hb)
  · rw [Below.heap_setCell _ _ _ _ (fun e => h e.symm)]; exact hb
theorem Keeps.trans {p : TypeId → Prop} {S S' S'' : Nat → Prop} {a b c : World} (h : Keeps p S S' a b) (k : Keeps p S' S'' b c) : Keeps p S S'' a c := by
  intro x cs t fz hs hp hb
  obtain ⟨h1, h2⟩ := h x cs t fz hs hp hb
  exact k x cs t fz h2 hp h1
theorem set_grown (w : World) (g j : Nat) (u : Value) : w.grownBy (w.setCell ⟨g, j, none⟩ u) (some g) :=
  ⟨rfl, rfl, rfl, by simp, fun k _ hne => Below.heap_setCell _ _ _ _ (fun e => hne (by rw [e]))⟩

/-! ## As the package's structures -/
theorem ABlk.read {w : World} {S : Nat → Prop} {v : Value} {a : Attr} (h : ABlk w S v a) : PAttr w v a := by
  obtain ⟨b, _, e, hb⟩ := h
  exact ⟨b, e, by simp [World.cell?, hb], by simp [World.cell?, hb]⟩
theorem row_read {w : World} {base : Nat} {e : TypeId} {u : Value} {n : Nat} {ps : List Value} (h : w.ownsRow base e 1 u n ps) : ∃ A cap, u = .slice A n cap ∧ n ≤ cap ∧ cap ≤ maxLen ∧ ps.length = n ∧ (0 < n → ∃ g, A = some ⟨g, 0, none⟩ ∧ ∀ j, j < n → w.cell? ⟨g, 0 + j, none⟩ = some (ps.getD j undef)) := by
  have hlen : ps.length = n := by simpa using h.1
  rcases h.2 with ⟨rfl, rfl⟩ | ⟨g, cap, cur, rfl, _, hg, hnc, hcm, _, _⟩
  · exact ⟨none, 0, rfl, Nat.le_refl _, by unfold maxLen; omega, hlen, fun h0 => by omega⟩
  · refine ⟨_, cap, rfl, hnc, hcm, hlen, fun _ => ⟨g, rfl, fun j hj => ?_⟩⟩
    have hx : ps[j]? = some (ps.getD j undef) := by
      rw [List.getD, List.getElem?_eq_getElem (by omega)]; rfl
    have := h.cells (g := g) rfl j _ hx
    rw [Addr.add_lit] at this
    rwa [Nat.zero_add] at *
theorem RBlk.read {w : World} {S : Nat → Prop} {v : Value} {l : List Attr} (h : RBlk w S v l) (hn : l.length ≤ 1000) : PRdn w v l := by
  obtain ⟨b, u, ps, _, e, hb, hr, ha⟩ := h
  obtain ⟨A, cap, rfl, _, _, _, hc⟩ := row_read hr.1
  refine ⟨b, A, l.length, cap, e, by simp [World.cell?, hb], hn, rfl, fun h0 => ?_⟩
  obtain ⟨g, e2, hj⟩ := hc h0
  exact ⟨g, 0, e2, fun j hlt => ⟨_, hj j hlt, (ha j hlt).read⟩⟩
/-- a row of parts behind a name's own block -/
theorem dn_read {w : World} {S : Nat → Prop} {D base : Nat} {u : Value} {ps : List Value} {l : Name} (hD : w.heap[D]? = some (.cells #[u] 44 (0, 0))) (hr : w.ownsRow base 48 1 u l.length ps)
    (ha : ∀ j, j < l.length → RBlk w S (ps.getD j undef) (Dn.at' l j)) (hn : l.length ≤ 1000) (hs : ∀ x ∈ l, x.length ≤ 1000) : PDn w (.pointer (some ⟨D, 0, none⟩)) l := by
  obtain ⟨A, cap, rfl, h1, h2, _, hc⟩ := row_read hr
  refine ⟨D, A, l.length, cap, rfl, by simp [World.cell?, hD], hn, h1, h2, rfl, fun h0 => ?_⟩
  obtain ⟨g, e2, hj⟩ := hc h0
  exact ⟨g, 0, e2, fun j hlt => ⟨_, hj j hlt, (ha j hlt).read (hs _ (at_mem hlt))⟩⟩

theorem getD_app_lt {ps : List Value} {x : Value} {j : Nat} (h : j < ps.length) : (ps ++ [x]).getD j undef = ps.getD j undef := by
  simp [List.getD, List.getElem?_append_left h]
theorem getD_app_eq {ps : List Value} {x : Value} : (ps ++ [x]).getD ps.length undef = x := by
  simp [List.getD]
end Go.Proofs.YtnjjhklefamaoaaDoor
