/-
  What a transform's four rows hold while they grow; the places of a source's wildcards.
-/
import Derived.Test.YtocfcajafkkhdaaDoorMm
namespace Go.Proofs.YtocfcajafkkhdaaDoor
open Go.RowKit

def Kn.tyV (k : Kn) : Value := .int .i16 k.ty
def Kn.argV (k : Kn) : Value := .int .i32 k.arg
def Kn.strV (k : Kn) : Value := .string k.str
def kAt (ks : List Kn) (j : Nat) : Kn := ks.getD j Kn.no
theorem kAt_lt {a : List Kn} {k : Kn} {j : Nat} (h : j < a.length) : kAt (a ++ [k]) j = kAt a j := by simp [kAt, List.getD, List.getElem?_append_left h]
theorem kAt_eq {a : List Kn} {k : Kn} : kAt (a ++ [k]) a.length = k := by simp [kAt, List.getD]
theorem getD_lt {α : Type} {a : List α} {x d : α} {j : Nat} (h : j < a.length) : (a ++ [x]).getD j d = a.getD j d := by simp [List.getD, List.getElem?_append_left h]
theorem getD_eq {α : Type} {a : List α} {x d : α} : (a ++ [x]).getD a.length d = x := by simp [List.getD]

/-- the row of slices of places -/
def IsRow (B : Nat) (w : World) (v : Value) (ks : List Kn) : Prop := ∃ us : List Value, w.ownsRow B 39 1 v ks.length us ∧ ∀ j, j < ks.length → Ints w (us.getD j undef) (kAt ks j).is
/-- the four rows -/
structure NtP (B : Nat) (W w : World) (a b c d : List Kn) (v16 v17 v18 v19 : Value) : Prop where
  below : Below B W w
  le : B ≤ w.heap.size
  r16 : w.ownsRow B 82 1 v16 a.length (a.map Kn.tyV)
  r17 : IsRow B w v17 b
  r18 : w.ownsRow B 21 1 v18 c.length (c.map Kn.argV)
  r19 : w.ownsRow B 9 1 v19 d.length (d.map Kn.strV)
theorem NtP.start {B : Nat} {W w : World} (h : Below B W w) (hB : B ≤ w.heap.size) : NtP B W w [] [] [] [] (.slice none 0 0) (.slice none 0 0) (.slice none 0 0) (.slice none 0 0) :=
  ⟨h, hB, World.ownsRow_nil _ _ _ _, ⟨[], World.ownsRow_nil _ _ _ _, fun j hj => by simp at hj⟩, World.ownsRow_nil _ _ _ _, World.ownsRow_nil _ _ _ _⟩
variable {B : Nat} {W w w' : World} {a b c d : List Kn} {v16 v17 v18 v19 : Value}
theorem IsRow.keep {v : Value} {ks : List Kn} (h : IsRow B w v ks) {e : TypeId} (hr : Rest e w w') (h1 : (3 : TypeId) ≠ e) (h2 : (39 : TypeId) ≠ e) : IsRow B w' v ks := by
  obtain ⟨us, h3, h4⟩ := h
  exact ⟨us, hr.row h3 h2, fun j hj => (h4 j hj).keep hr h1⟩
theorem NtP.grow (h : NtP B W w a b c d v16 v17 v18 v19) (hb : Below w.heap.size w w') : NtP B W w' a b c d v16 v17 v18 v19 :=
  ⟨h.below.trans (hb.mono h.le), Nat.le_trans h.le hb.size, (Rest.below (e := 0) hb).row h.r16 (by decide), h.r17.keep (Rest.below (e := 0) hb) (by decide) (by decide), (Rest.below (e := 0) hb).row h.r18 (by decide), (Rest.below (e := 0) hb).row h.r19 (by decide)⟩
theorem NtP.all (h : NtP B W w a b c d v16 v17 v18 v19) {base z n : Nat} {u x : Value} {ps : List Value} {e : TypeId} (ho : w.ownsRow base e z u n ps) (hB : B ≤ base) (hg : (w.alloc (.cells #[x] e)).grownBy w' u.ownBlock) : Below B W w' ∧ B ≤ w'.heap.size :=
  ⟨(h.below.alloc h.le _).grown hg (by simp; have := h.le; omega) (fun g hg2 => Nat.le_trans hB (ho.lt g hg2).1), by have := hg.size; have := h.le; simp at *; omega⟩
theorem NtP.app16 (h : NtP B W w a b c d v16 v17 v18 v19) {v : Value} {k : Kn} (ho : w'.ownsRow B 82 1 v (a.length + 1) (a.map Kn.tyV ++ [k.tyV])) (hg : (w.alloc (.cells #[k.tyV] 82)).grownBy w' v16.ownBlock) : NtP B W w' (a ++ [k]) b c d v v17 v18 v19 := by
  obtain ⟨h1, h2⟩ := h.all h.r16 (Nat.le_refl _) hg
  have hr := Rest.app h.r16 hg
  refine ⟨h1, h2, ?_, h.r17.keep hr (by decide) (by decide), hr.row h.r18 (by decide), hr.row h.r19 (by decide)⟩
  rw [List.length_append, List.map_append]
  exact ho
theorem NtP.app18 (h : NtP B W w a b c d v16 v17 v18 v19) {v : Value} {k : Kn} (ho : w'.ownsRow B 21 1 v (c.length + 1) (c.map Kn.argV ++ [k.argV])) (hg : (w.alloc (.cells #[k.argV] 21)).grownBy w' v18.ownBlock) : NtP B W w' a b (c ++ [k]) d v16 v17 v v19 := by
  obtain ⟨h1, h2⟩ := h.all h.r18 (Nat.le_refl _) hg
  have hr := Rest.app h.r18 hg
  refine ⟨h1, h2, hr.row h.r16 (by decide), h.r17.keep hr (by decide) (by decide), ?_, hr.row h.r19 (by decide)⟩
  rw [List.length_append, List.map_append]
  exact ho
theorem NtP.app19 (h : NtP B W w a b c d v16 v17 v18 v19) {v : Value} {k : Kn} (ho : w'.ownsRow B 9 1 v (d.length + 1) (d.map Kn.strV ++ [k.strV])) (hg : (w.alloc (.cells #[k.strV] 9)).grownBy w' v19.ownBlock) : NtP B W w' a b c (d ++ [k]) v16 v17 v18 v := by
  obtain ⟨h1, h2⟩ := h.all h.r19 (Nat.le_refl _) hg
  have hr := Rest.app h.r19 hg
  refine ⟨h1, h2, hr.row h.r16 (by decide), h.r17.keep hr (by decide) (by decide), hr.row h.r18 (by decide), ?_⟩
  rw [List.length_append, List.map_append]
  exact ho
theorem NtP.app17 (h : NtP B W w a b c d v16 v17 v18 v19) {v x : Value} {k : Kn} {us : List Value} (hu : w.ownsRow B 39 1 v17 b.length us) (hus : ∀ j, j < b.length → Ints w (us.getD j undef) (kAt b j).is) (hx : Ints w x k.is)
    (ho : w'.ownsRow B 39 1 v (b.length + 1) (us ++ [x])) (hg : (w.alloc (.cells #[x] 39)).grownBy w' v17.ownBlock) : NtP B W w' a (b ++ [k]) c d v16 v v18 v19 := by
  obtain ⟨h1, h2⟩ := h.all hu (Nat.le_refl _) hg
  have hr := Rest.app hu hg
  have hl : us.length = b.length := by have := hu.1; simpa using this
  refine ⟨h1, h2, hr.row h.r16 (by decide), ⟨us ++ [x], by rw [List.length_append]; exact ho, fun j hj => ?_⟩, hr.row h.r18 (by decide), hr.row h.r19 (by decide)⟩
  rw [List.length_append, List.length_singleton] at hj
  rcases Nat.lt_or_ge j b.length with hlt | hge
  · rw [getD_lt (by omega), kAt_lt hlt]
    exact (hus j hlt).keep hr (by decide)
  · obtain rfl : j = b.length := by omega
    rw [kAt_eq, ← hl, getD_eq]
    exact hx.keep hr (by decide)

/-! ## the places of the wildcards -/
def pcs (ts : List (List UInt8)) (k : Nat) : List Nat := (List.range k).filter (fun j => ts.getD j [] == [42])
theorem pcs_zero (ts : List (List UInt8)) : pcs ts 0 = [] := rfl
theorem pcs_succ (ts : List (List UInt8)) (k : Nat) : pcs ts (k + 1) = pcs ts k ++ if ts.getD k [] = [42] then [k] else [] := by
  unfold pcs
  rw [List.range_succ, List.filter_append]
  congr 1
  rw [List.filter_cons, List.filter_nil]
  by_cases h : ts.getD k [] = [42]
  · rw [if_pos (beq_iff_eq.2 h), if_pos h]
  · rw [if_neg (fun e => h (beq_iff_eq.1 e)), if_neg h]
theorem pcs_length (ts : List (List UInt8)) : ∀ k, k ≤ ts.length → (pcs ts k).length = pwcs (ts.take k)
  | 0, _ => rfl
  | k + 1, h => by
    have ih := pcs_length ts k (by omega)
    rw [pcs_succ, List.length_append, ih, List.take_succ_eq_append_getElem h, pwcs_snoc]
    have e : ts.getD k [] = ts[k] := by simp [List.getD, show k < ts.length from h]
    rw [e]
    split <;> rfl
theorem pcs_lt (ts : List (List UInt8)) (k j : Nat) (h : j ∈ pcs ts k) : j < k := by
  unfold pcs at h
  simpa using (List.mem_filter.1 h).1
/-- what a token of a destination becomes beside a source -/
def Kn.at_ (ts : List (List UInt8)) (k : Kn) : Kn := if k.ty = 0 then Kn.no else { k with is := k.is.map (fun i => ((pcs ts ts.length).getD (i.toNat - 1) 0 : Int)) }
/-- a token's numbers are of wildcards that there are -/
def Kn.fits (n : Nat) (k : Kn) : Prop := (k.ty = 0 ∨ (k.is ≠ [] ∧ ∀ i ∈ k.is, 1 ≤ i ∧ i ≤ (n : Int))) ∧ k.is.length ≤ 1000
end Go.Proofs.YtocfcajafkkhdaaDoor
