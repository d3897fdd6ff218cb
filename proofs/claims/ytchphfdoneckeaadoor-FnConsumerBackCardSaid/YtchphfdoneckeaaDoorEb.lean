/-
  A buffer that is written from its beginning: varints behind one another.
-/
import Derived.Test.YtchphfdoneckeaaDoorVb
import Derived.Test.YtchphfdoneckeaaDoorShelf
import Derived.Laws.IdiomCopy
namespace Go.Proofs.YtchphfdoneckeaaDoor
open Go.RowKit Go.Lib
open Cs (Wt Kp Ag)

/-- the block bb, M bytes; the first of them are out -/
structure EncAt (w : World) (bb M : Nat) (out : List UInt8) : Prop where
  lt : bb < w.heap.size
  le : out.length ≤ M
  got : ∀ j (hj : j < out.length), w.cell? ⟨bb, j, none⟩ = some (.int .u8 (out[j].toNat : Int))
  there : ∀ j, j < M → (w.cell? ⟨bb, j, none⟩).isSome = true ∧ w.frozen? ⟨bb, j, none⟩ = false
  ty : ∃ (cs : Array Value) (t : TypeId), w.heap[bb]? = some (.cells cs t (0, 0)) ∧ t ≠ 93
theorem ty_setCells {bb : Nat} : ∀ (vs : List Value) (o : Nat) (w : World), (∃ (cs : Array Value) (t : TypeId), w.heap[bb]? = some (.cells cs t (0, 0)) ∧ t ≠ 93) → ∃ (cs : Array Value) (t : TypeId), (w.setCells bb o vs).heap[bb]? = some (.cells cs t (0, 0)) ∧ t ≠ 93
  | [], _, _, h => h
  | v :: r, o, _, ⟨_, t, h, ht⟩ => ty_setCells r (o + 1) _ ⟨_, t, K.heap_setCell_at h v, ht⟩
theorem EncAt.not93 {w : World} {bb M : Nat} {out : List UInt8} (h : EncAt w bb M out) (cs : Array Value) (f : Nat × Nat) : w.heap[bb]? ≠ some (.cells cs 93 f) := by
  obtain ⟨cs', t, h1, h2⟩ := h.ty
  rw [h1]
  intro e
  injection e with e
  injection e with _ e _
  exact h2 e
theorem but_setCells (bb : Nat) : ∀ (vs : List Value) (o : Nat) (w : World), But (fun j => j = bb) w (w.setCells bb o vs)
  | [], _, w => But.refl _ w
  | v :: r, o, w => ((But.refl (fun j => j = bb) w).setCell ⟨bb, o, none⟩ v (fun _ => rfl)).trans (but_setCells bb r (o + 1) _)
theorem EncAt.put {w : World} {bb M : Nat} {out : List UInt8} (h : EncAt w bb M out) (l : List UInt8) (hl : out.length + l.length ≤ M) : EncAt (w.setCells bb out.length (byteCells l)) bb M (out ++ l) := by
  have hb := but_setCells bb (byteCells l) out.length w
  refine ⟨Nat.lt_of_lt_of_le h.lt hb.size, by rw [List.length_append]; exact hl, fun j hj => ?_, fun j hj => ⟨?_, by rw [World.frozen?_setCells]; exact (h.there j hj).2⟩, ty_setCells _ _ _ h.ty⟩
  · rw [List.length_append] at hj
    by_cases hjo : j < out.length
    · rw [World.cell?_setCells_out _ _ _ _ _ (fun _ _ => Or.inl hjo), h.got j hjo, List.getElem_append_left hjo]
    · obtain ⟨i, rfl⟩ : ∃ i, j = out.length + i := ⟨j - out.length, by omega⟩
      have hi : i < (byteCells l).length := by rw [byteCells_length]; omega
      have hil : i < l.length := by omega
      rw [World.cell?_setCells_in bb (byteCells l) out.length w (fun q hq => (h.there _ (by rw [byteCells_length] at hq; omega)).1) i hi]
      simp [byteCells]
  · by_cases hjo : j < out.length ∨ out.length + (byteCells l).length ≤ j
    · rw [World.cell?_setCells_out _ _ _ _ _ (fun _ _ => hjo)]; exact (h.there j hj).1
    · obtain ⟨i, rfl⟩ : ∃ i, j = out.length + i := ⟨j - out.length, by omega⟩
      rw [World.cell?_setCells_in bb (byteCells l) out.length w (fun q hq => (h.there _ (by rw [byteCells_length] at hq; omega)).1) i (by omega)]; rfl
theorem EncAt.but {S : Nat → Prop} {w w' : World} {bb M : Nat} {out : List UInt8} (h : EncAt w bb M out) (hb : But S w w') (hS : ¬ S bb) : EncAt w' bb M out := by
  have e := hb.block bb h.lt hS
  have ec : ∀ j, w'.cell? ⟨bb, j, none⟩ = w.cell? ⟨bb, j, none⟩ := fun j => by simp only [World.cell?, e]
  have ef : ∀ j, w'.frozen? ⟨bb, j, none⟩ = w.frozen? ⟨bb, j, none⟩ := fun j => by simp only [World.frozen?, e]
  exact ⟨Nat.lt_of_lt_of_le h.lt hb.size, h.le, fun j hj => by rw [ec]; exact h.got j hj, fun j hj => by rw [ec, ef]; exact h.there j hj, by rw [e]; exact h.ty⟩
/-- what a write leaves -/
def PutPost (bb M : Nat) (out l : List UInt8) (w : World) (e : Ending) (w' : World) : Prop := e = .returned (.int .i64 (l.length : Int)) ∧ EncAt w' bb M (out ++ l) ∧ But (fun j => j = bb) w w'
theorem put_u {w : World} {bb M o nn cc x : Nat} {out : List UInt8} (h : EncAt w bb M out) (ho : out.length = o) (hn : nn = M - o) (hx : x < 18446744073709551616) (hM : o + 10 ≤ M) :
    Calls Tryd.prog 51 #[.slice (some ⟨bb, o, none⟩) nn cc, .int .u64 (x : Int)] w (PutPost bb M out (uvarint x) w) := by
  have hl := uvarint_length64 hx
  subst ho
  refine (Tryd.binary_PutUvarint bb out.length nn cc x hx w (by omega) (fun j hj => h.there _ (by omega))).mono ?_
  rintro e w' ⟨rfl, rfl⟩
  exact ⟨rfl, h.put _ (by omega), but_setCells _ _ _ _⟩
theorem put_v {w : World} {bb M o nn cc : Nat} {x : Int} {out : List UInt8} (h : EncAt w bb M out) (ho : out.length = o) (hn : nn = M - o) (h0 : -4611686018427387904 ≤ x) (h1 : x ≤ 0) (hM : o + 10 ≤ M) :
    Calls Tryd.prog 52 #[.slice (some ⟨bb, o, none⟩) nn cc, .int .i64 x] w (PutPost bb M out (uvarint (zigzag x)) w) := by
  have hz : zigzag x < 18446744073709551616 := by
    unfold zigzag
    split <;> omega
  have hl := uvarint_length64 hz
  subst ho
  refine (Tryd.binary_PutVarint bb out.length nn cc x (by omega) (by omega) w (by omega) (fun j hj => h.there _ (by omega))).mono ?_
  rintro e w' ⟨rfl, rfl⟩
  exact ⟨rfl, h.put _ (by omega), but_setCells _ _ _ _⟩
end Go.Proofs.YtchphfdoneckeaaDoor
