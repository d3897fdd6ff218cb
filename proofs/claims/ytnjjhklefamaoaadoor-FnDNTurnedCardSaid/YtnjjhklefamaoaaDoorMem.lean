/-
  What lies in memory, of no program: attributes in a slice of structs of two texts, names in a slice of such slices, and how a law's arguments of these kinds are opened.
-/
import Derived.Test.YtnjjhklefamaoaaDoorKit
import Derived.Test.YtnjjhklefamaoaaDoorDn
import Derived.Deep.Slices
import Derived.Deep.Fields
import Derived.ChangeSame
namespace Go.Proofs.YtnjjhklefamaoaaDoor
open Go.RowKit Go.WideShapes Go.ChangeShapes Go.Deep
open Dn (Attr Name)

abbrev noA : Attr := (⟨#[]⟩, ⟨#[]⟩)
abbrev atA (l : List Attr) (j : Nat) : Attr := l.getD j noA

/-- the attributes that a slice of structs of two texts holds -/
def AttrsAt (w : World) (A : Option Addr) (n : Nat) (l : List Attr) : Prop :=
  l.length = n ∧ (0 < n → ∃ ab ao, A = some ⟨ab, ao, none⟩ ∧ ab < w.heap.size ∧ ∀ j, j < n → w.cell? ⟨ab, ao + j * 2, none⟩ = some (.string (atA l j).1) ∧ w.cell? ⟨ab, ao + j * 2 + 1, none⟩ = some (.string (atA l j).2))
/-- bounds that every attribute keeps -/
def Fit (l : List Attr) : Prop := ∀ a ∈ l, a.1.size ≤ maxLen ∧ a.2.size ≤ maxLen
def AttrsV (w : World) (v : Value) (l : List Attr) : Prop := ∃ A n cap, v = .slice A n cap ∧ n ≤ cap ∧ cap ≤ maxLen ∧ AttrsAt w A n l ∧ Fit l
def NamesAt (w : World) (A : Option Addr) (n : Nat) (l : Name) : Prop :=
  l.length = n ∧ (0 < n → ∃ ab ao, A = some ⟨ab, ao, none⟩ ∧ ab < w.heap.size ∧ ∀ j, j < n → ∃ v, w.cell? ⟨ab, ao + j, none⟩ = some v ∧ AttrsV w v (Dn.at' l j))
def NamesV (w : World) (v : Value) (l : Name) : Prop := ∃ A n cap, v = .slice A n cap ∧ n ≤ cap ∧ cap ≤ maxLen ∧ NamesAt w A n l

theorem AttrsAt.below {w w' : World} {A : Option Addr} {n : Nat} {l : List Attr} (h : AttrsAt w A n l) (hb : Below w.heap.size w w') : AttrsAt w' A n l := by
  refine ⟨h.1, fun hn => ?_⟩
  obtain ⟨ab, ao, e, hlt, hc⟩ := h.2 hn
  exact ⟨ab, ao, e, Nat.lt_of_lt_of_le hlt hb.size, fun j hj => ⟨(hb.cell (p := ⟨ab, _, none⟩) hlt).trans (hc j hj).1, (hb.cell (p := ⟨ab, _, none⟩) hlt).trans (hc j hj).2⟩⟩
theorem AttrsV.below {w w' : World} {v : Value} {l : List Attr} (h : AttrsV w v l) (hb : Below w.heap.size w w') : AttrsV w' v l := by
  obtain ⟨A, n, cap, e, h1, h2, h3, h4⟩ := h
  exact ⟨A, n, cap, e, h1, h2, h3.below hb, h4⟩
theorem NamesAt.below {w w' : World} {A : Option Addr} {n : Nat} {l : Name} (h : NamesAt w A n l) (hb : Below w.heap.size w w') : NamesAt w' A n l := by
  refine ⟨h.1, fun hn => ?_⟩
  obtain ⟨ab, ao, e, hlt, hc⟩ := h.2 hn
  refine ⟨ab, ao, e, Nat.lt_of_lt_of_le hlt hb.size, fun j hj => ?_⟩
  obtain ⟨v, h1, h2⟩ := hc j hj
  exact ⟨v, (hb.cell (p := ⟨ab, _, none⟩) hlt).trans h1, h2.below hb⟩
theorem NamesV.below {w w' : World} {v : Value} {l : Name} (h : NamesV w v l) (hb : Below w.heap.size w w') : NamesV w' v l := by
  obtain ⟨A, n, cap, e, h1, h2, h3⟩ := h
  exact ⟨A, n, cap, e, h1, h2, h3.below hb⟩

section
variable {H : Type} {enc : TypeId × Value → H} {P : Program} {w : World} {base : Nat} {spare : Nat → Bool} {held : Bool}
theorem open_slice_fields {t e : TypeId} {fs : Array Field} {fuel : Nat} {cs : List Value} {x : DataW H × List MemPlace} (ht : P.underlying t = some (.slice e)) (he : P.underlying e = some (.struct fs))
    (hone : oneCellFields P fs = true) (hC : P.cellsOf e = fs.size) (h : DataW.trod enc P w base spare held fuel t cs = some x) :
    (cs = [.slice none 0 0] ∧ x = (.nil, [])) ∨
    ∃ (a : Addr) (len cap m : Nat) (D : Nat → DataW H) (Pl : Nat → List MemPlace), cs = [.slice (some a) len cap] ∧ base ≤ a.block ∧ len ≤ cap ∧ cap ≤ maxLen ∧ m = (if spare a.block then cap else len) ∧
      x = (.slice ((List.range len).map D) ((List.range (m - len)).map fun j => D (len + j)), MemPlace.row a (m * fs.size) ++ (List.range m).flatMap Pl) ∧
      ∀ i, i < m → ∃ (ys : List (DataW H × List MemPlace)) (n : Nat), D i = .agg (ys.map (·.1)) ∧ Pl i = ys.flatMap (·.2) ∧ ys.length = fs.size ∧
        ∀ (j : Nat) (f : Field), fs[j]? = some f → ∃ (v : Value) (y : DataW H × List MemPlace), w.cell? (a.add (i * fs.size + j)) = some v ∧ ys[j]? = some y ∧ DataW.trod enc P w base spare held n f.type [v] = some y := by
  rcases open_slice ht h with h0 | ⟨a, len, cap, m, n, D, Pl, hcs, hb, hl, hm, hmm, hx, hi⟩
  · exact .inl h0
  · refine .inr ⟨a, len, cap, m, D, Pl, hcs, hb, hl, hm, hmm, by rw [hC] at hx; exact hx, fun i him => ?_⟩
    obtain ⟨cs', hc, ht'⟩ := hi i him
    rw [hC] at hc
    obtain ⟨ys, n', hn', hy, hlen, hyl, hf⟩ := DataW.trod_struct he ht'
    obtain ⟨_, hcl, hat⟩ := World.cells?_some hc
    simp only [Prod.mk.injEq] at hy
    refine ⟨ys, n', hy.1, hy.2, hyl, fun j f hj => ?_⟩
    obtain ⟨ho, hk⟩ := hone_of hone j f hj
    have hjl : j < fs.size := (Array.getElem?_eq_some_iff.1 hj).1
    have hcell := hat j hjl
    have hv : cs'[j]? = some (cs'[j]'(by omega)) := List.getElem?_eq_getElem (by omega)
    have h1 := hf j f hj
    rw [ho, hk] at h1
    have hone' : (cs'.drop j).take 1 = [cs'[j]'(by omega)] := by
      rw [List.drop_eq_getElem_cons (by omega)]
      rfl
    rw [hone'] at h1
    have hys : ys[j]? = some (ys[j]'(by omega)) := List.getElem?_eq_getElem (by omega)
    refine ⟨_, _, ?_, hys, h1.trans hys⟩
    rw [← Go.Deep.add_add, hcell, hv]

/-- a slice of attributes -/
theorem open_attrs {t e s : TypeId} {f0 f1 : Field} {fuel : Nat} {cs : List Value} {x : DataW H × List MemPlace} (ht : P.underlying t = some (.slice e)) (he : P.underlying e = some (.struct #[f0, f1]))
    (h0 : f0.type = s) (h1 : f1.type = s) (hs : P.underlying s = some .string) (hone : oneCellFields P #[f0, f1] = true) (hC : P.cellsOf e = 2) (hsp : ∀ b, spare b = true)
    (h : DataW.trod enc P w base spare held fuel t cs = some x) : ∃ v l, cs = [v] ∧ AttrsV w v l := by
  rcases open_slice_fields ht he hone hC h with ⟨rfl, rfl⟩ | ⟨a, len, cap, m, D, Pl, rfl, _, hlc, hm, hmm, _, hi⟩
  · exact ⟨_, [], rfl, none, 0, 0, rfl, Nat.le_refl _, by unfold maxLen; omega, ⟨rfl, fun h => by omega⟩, fun a ha => by cases ha⟩
  · rw [hsp, if_pos rfl] at hmm
    rw [hmm] at hi
    have hall : ∀ i : Nat, ∃ a2 : Attr, i < len → (w.cell? (a.add (i * 2 + 0)) = some (.string a2.1) ∧ w.cell? (a.add (i * 2 + 1)) = some (.string a2.2)) ∧ a2.1.size ≤ maxLen ∧ a2.2.size ≤ maxLen := by
      intro i
      by_cases hil : i < len
      · obtain ⟨ys, n, _, _, hyl, hf⟩ := hi i (by omega)
        obtain ⟨v0, y0, c0, _, t0⟩ := hf 0 f0 rfl
        obtain ⟨v1, y1, c1, _, t1⟩ := hf 1 f1 rfl
        rw [h0] at t0
        rw [h1] at t1
        obtain ⟨s0, e0, _, z0⟩ := DataW.trod_string hs t0
        obtain ⟨s1, e1, _, z1⟩ := DataW.trod_string hs t1
        obtain rfl : v0 = .string s0 := by simpa using e0
        obtain rfl : v1 = .string s1 := by simpa using e1
        exact ⟨(s0, s1), fun _ => ⟨⟨c0, c1⟩, z0, z1⟩⟩
      · exact ⟨noA, fun h => absurd h hil⟩
    obtain ⟨F, hF⟩ := Classical.axiomOfChoice hall
    have hget : ∀ i, i < len → atA ((List.range len).map F) i = F i := by
      intro i hil
      simp [atA, List.getD, hil]
    refine ⟨_, (List.range len).map F, rfl, some a, len, cap, rfl, hlc, hm, ⟨by simp, fun hn => ?_⟩, fun x hx => ?_⟩
    · have c0 := (hF 0 hn).1.1
      have hspot : a.spot = none := K.spot_none (W := w) (a := a) c0
      obtain ⟨ab, ao, sp⟩ := a
      simp only at hspot
      subst hspot
      refine ⟨ab, ao, rfl, World.block_lt_of_cell? w _ c0, fun j hj => ?_⟩
      have := (hF j hj).1
      rw [hget j hj]
      rw [K.addr_add _ rfl, K.addr_add _ rfl] at this
      exact this
    · obtain ⟨i, hi2, rfl⟩ := List.mem_map.1 hx
      have := (hF i (by simpa using hi2)).2
      exact this

/-- a slice of slices of attributes -/
theorem open_names {t e e2 s : TypeId} {f0 f1 : Field} {v : Value} {d : DataW H} {p : List MemPlace} (htt : P.underlying t = some (.slice e)) (hce : P.cellsOf e = 1) (ht : P.underlying e = some (.slice e2)) (he : P.underlying e2 = some (.struct #[f0, f1]))
    (h0 : f0.type = s) (h1 : f1.type = s) (hs : P.underlying s = some .string) (hone : oneCellFields P #[f0, f1] = true) (hC : P.cellsOf e2 = 2) (hsp : ∀ b, spare b = true)
    (hval : Value.okWide P w .any 0 t v) (hT : DataW.Trod enc P w base spare held t v d p) : ∃ l, NamesV w v l := by
  obtain ⟨fuel, h⟩ := hT
  obtain ⟨A0, n0, cap0, rfl⟩ := okWide_slice htt hval
  rcases open_slice htt h with ⟨hcs, _⟩ | ⟨a, len, cap, m, n, D, Pl, hcs, _, hlc, hm, hmm, _, hi⟩
  · simp [Value.cells] at hcs
    obtain ⟨rfl, rfl, rfl⟩ := hcs
    exact ⟨[], none, 0, 0, rfl, Nat.le_refl _, by unfold maxLen; omega, rfl, fun h => by omega⟩
  · simp [Value.cells] at hcs
    obtain ⟨rfl, rfl, rfl⟩ := hcs
    rw [hsp, if_pos rfl] at hmm
    rw [hmm] at hi
    have hall : ∀ i : Nat, ∃ l : List Attr, i < n0 → ∃ v, w.cell? (a.add (i * 1 + 0)) = some v ∧ AttrsV w v l := by
      intro i
      by_cases hil : i < n0
      · obtain ⟨cs', hc, ht'⟩ := hi i (by omega)
        obtain ⟨v, l, rfl, hl⟩ := open_attrs ht he h0 h1 hs hone hC hsp ht'
        rw [hce] at hc
        obtain ⟨_, _, hat⟩ := World.cells?_some hc
        have := hat 0 (by omega)
        refine ⟨l, fun _ => ⟨v, ?_, hl⟩⟩
        rw [← Go.Deep.add_add, this]; rfl
      · exact ⟨[], fun h => absurd h hil⟩
    obtain ⟨F, hF⟩ := Classical.axiomOfChoice hall
    have hget : ∀ i, i < n0 → Dn.at' ((List.range n0).map F) i = F i := by
      intro i hil
      simp [Dn.at', List.getD, hil]
    refine ⟨(List.range n0).map F, some a, n0, cap0, rfl, hlc, hm, by simp, fun hn => ?_⟩
    obtain ⟨v0, c0, _⟩ := hF 0 hn
    have hspot : a.spot = none := K.spot_none (W := w) (a := a) c0
    obtain ⟨ab, ao, sp⟩ := a
    simp only at hspot
    subst hspot
    refine ⟨ab, ao, rfl, World.block_lt_of_cell? w _ c0, fun j hj => ?_⟩
    obtain ⟨v, c, hv⟩ := hF j hj
    rw [hget j hj]
    refine ⟨v, ?_, hv⟩
    rw [K.addr_add _ rfl] at c
    simpa using c
end
end Go.Proofs.YtnjjhklefamaoaaDoor
