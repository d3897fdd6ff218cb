/-
  ParseDN's start: what lies there ahead of its loop; the buffer's methods over the whole state.
-/
import Derived.Test.YtnjjhklefamaoaaDoorClos
namespace Go.Proofs.YtnjjhklefamaoaaDoor
open Go.RowKit
open Dn (Attr Name)

theorem mk42 (w : World) : (Instr.makeSlice 42 (.int .i64 0) (.int .i64 0)).run Tryd.prog w = .ok (.slice (some ⟨w.heap.size, 0, none⟩) 0 0) (w.alloc (.cells #[] 48)) := by kernel_rfl
theorem mk45 (w : World) : (Instr.makeSlice 45 (.int .i64 0) (.int .i64 0)).run Tryd.prog w = .ok (.slice (some ⟨w.heap.size, 0, none⟩) 0 0) (w.alloc (.cells #[] 50)) := by kernel_rfl

def start (w : World) : World := ((((((w.alloc (.cells #[.slice (some ⟨w.heap.size + 1, 0, none⟩) 0 0] 44)).alloc (.cells #[] 48)).alloc (.cells #[.slice (some ⟨w.heap.size + 1 + 1 + 1, 0, none⟩) 0 0] 47)).alloc (.cells #[] 50)).alloc
  (.cells #[.slice none 0 0, .int .i64 0, .int .i8 0] 60)).alloc (.cells #[.string ⟨#[]⟩, .string ⟨#[]⟩] 49)).alloc (.cells #[.int .i64 0] 3)
theorem app {w : World} {i : Nat} {x : Obj} (o : Obj) (h : w.heap[i]? = some x) : (w.alloc o).heap[i]? = some x := (Below.heap_alloc _ _ _ (lt_of h)).trans h
theorem new (w : World) (o : Obj) {n : Nat} (h : w.heap.size = n) : (w.alloc o).heap[n]? = some o := by subst h; exact K.heap_alloc_at _ _
theorem start_mem (w : World) : Mem w (start w) (w.heap.size + 1 + 1 + 1 + 1) (w.heap.size + 1 + 1 + 1 + 1 + 1 + 1) [] 0 (w.heap.size + 1 + 1 + 1 + 1 + 1) (⟨#[]⟩, ⟨#[]⟩) (w.heap.size + 1 + 1)
    (.slice (some ⟨w.heap.size + 1 + 1 + 1, 0, none⟩) 0 0) [] [] (.slice (some ⟨w.heap.size + 1, 0, none⟩) 0 0) [] [] := by
  have hg : Below w.heap.size w (start w) := by
    unfold start
    exact (((((((Below.refl _ w).alloc (Nat.le_refl _) _).alloc (by simp) _).alloc (by simp; omega) _).alloc (by simp; omega) _).alloc (by simp; omega) _).alloc (by simp; omega) _).alloc (by simp; omega) _
  have h0 : (start w).heap[w.heap.size]? = some (.cells #[.slice (some ⟨w.heap.size + 1, 0, none⟩) 0 0] 44 (0, 0)) := app _ (app _ (app _ (app _ (app _ (app _ (new _ _ rfl))))))
  have h1 : (start w).heap[w.heap.size + 1]? = some (.cells #[] 48 (0, 0)) := app _ (app _ (app _ (app _ (app _ (new _ _ (by simp))))))
  have h2 : (start w).heap[w.heap.size + 1 + 1]? = some (.cells #[.slice (some ⟨w.heap.size + 1 + 1 + 1, 0, none⟩) 0 0] 47 (0, 0)) := app _ (app _ (app _ (app _ (new _ _ (by simp)))))
  have h3 : (start w).heap[w.heap.size + 1 + 1 + 1]? = some (.cells #[] 50 (0, 0)) := app _ (app _ (app _ (new _ _ (by simp))))
  have h4 : (start w).heap[w.heap.size + 1 + 1 + 1 + 1]? = some (.cells #[.slice none 0 0, .int .i64 0, .int .i8 0] 60 (0, 0)) := app _ (app _ (new _ _ (by simp)))
  have h5 : (start w).heap[w.heap.size + 1 + 1 + 1 + 1 + 1]? = some (.cells #[.string ⟨#[]⟩, .string ⟨#[]⟩] 49 (0, 0)) := app _ (new _ _ (by simp))
  have h6 : (start w).heap[w.heap.size + 1 + 1 + 1 + 1 + 1 + 1]? = some (.cells #[.int .i64 0] 3 (0, 0)) := new _ _ (by simp)
  generalize start w = W at *
  refine ⟨⟨hg, by omega, by omega, by omega⟩, ⟨by omega, .slice none 0 0, 0, h4, World.ownsRow_nil _ _ _ _, by simp [Value.ownBlock]⟩, h6, h5, ⟨h2, ⟨rfl, .inr ⟨_, 0, #[], rfl, by omega, h3, Nat.le_refl _, by unfold maxLen; omega, rfl, rfl⟩⟩, fun j hj => by simp at hj⟩,
    ⟨h0, ⟨rfl, .inr ⟨_, 0, #[], rfl, by omega, h1, Nat.le_refl _, by unfold maxLen; omega, rfl, rfl⟩⟩, fun j hj => by simp at hj⟩⟩

section
variable {w wr : World} {Bf Sp sp A R : Nat} {buf : List UInt8} {a : Attr} {v u : Value} {ps ds : List Value} {rdn : List Attr} {dn : Name}
def WritePost (w : World) (Bf Sp : Nat) (buf : List UInt8) (sp : Nat) (A : Nat) (a : Attr) (R : Nat) (v : Value) (ps : List Value) (rdn : List Attr) (u : Value) (ds : List Value) (dn : Name) (e : Ending) (w' : World) : Prop :=
  e = .returned .nilIface ∧ Mem w w' Bf Sp buf sp A a R v ps rdn u ds dn
theorem write_any (M : Mem w wr Bf Sp buf sp A a R v ps rdn u ds dn) (c : UInt8) (n : Int) (hn : n = c.toNat) (hb : buf.length ≤ 100000) :
    Calls Tryd.prog 34 #[.pointer (some ⟨Bf, 0, none⟩), .int .u8 n] wr (WritePost w Bf Sp (buf ++ [c]) sp A a R v ps rdn u ds dn) := by
  have hl : (Lib.byteCells buf).length = buf.length := by rw [Lib.byteCells_length]
  refine (Tryd.Buffer_WriteByte_k w.heap.size Bf _ n wr M.2.1 (Below.size M.1.1) (Lib.byteCells_one _) (by rw [hl]; omega)).mono ?_
  rintro e w' ⟨he, hI, hbl, ho⟩
  refine ⟨he, M.buffer ?_ hbl ho⟩
  rw [hn] at hI
  have : Lib.byteCells (buf ++ [c]) = Lib.byteCells buf ++ [.int .u8 c.toNat] := by simp [Lib.byteCells]
  unfold BufP
  rw [this]
  exact hI
theorem len_any (M : Mem w wr Bf Sp buf sp A a R v ps rdn u ds dn) : Calls Tryd.prog 37 #[.pointer (some ⟨Bf, 0, none⟩)] wr (fun e w' => e = .returned (.int .i64 buf.length) ∧ ∃ n, w' = wr.drewN n) := by
  have hl : (Lib.byteCells buf).length = buf.length := by rw [Lib.byteCells_length]
  have := Tryd.Buffer_Len w.heap.size Bf _ wr M.2.1
  rw [hl] at this
  exact this
theorem Mem.cellS (M : Mem w wr Bf Sp buf sp A a R v ps rdn u ds dn) : wr.cell? ⟨Sp, 0, none⟩ = some (.int .i64 sp) := by have := M.2.2.1; unfold SpP at this; simp [World.cell?, this]
theorem Mem.fzS (M : Mem w wr Bf Sp buf sp A a R v ps rdn u ds dn) : wr.frozen? ⟨Sp, 0, none⟩ = false := by have := M.2.2.1; unfold SpP at this; simp [World.frozen?, this]
theorem Mem.cellA0 (M : Mem w wr Bf Sp buf sp A a R v ps rdn u ds dn) : wr.cell? ⟨A, 0, none⟩ = some (.string a.1) := by have := M.2.2.2.1; unfold AttrP at this; simp [World.cell?, this]
theorem Mem.cellA1 (M : Mem w wr Bf Sp buf sp A a R v ps rdn u ds dn) : wr.cell? ⟨A, 1, none⟩ = some (.string a.2) := by have := M.2.2.2.1; unfold AttrP at this; simp [World.cell?, this]
theorem Mem.fzA (M : Mem w wr Bf Sp buf sp A a R v ps rdn u ds dn) (j : Nat) : wr.frozen? ⟨A, j, none⟩ = false := by have := M.2.2.2.1; unfold AttrP at this; simp [World.frozen?, this]
theorem Mem.cellR (M : Mem w wr Bf Sp buf sp A a R v ps rdn u ds dn) : wr.cell? ⟨R, 0, none⟩ = some v := by have := M.2.2.2.2.1.1; simp [World.cell?, this]
theorem Mem.fzR (M : Mem w wr Bf Sp buf sp A a R v ps rdn u ds dn) : wr.frozen? ⟨R, 0, none⟩ = false := by have := M.2.2.2.2.1.1; simp [World.frozen?, this]
theorem Mem.cellD (M : Mem w wr Bf Sp buf sp A a R v ps rdn u ds dn) : wr.cell? ⟨w.heap.size, 0, none⟩ = some u := by have := M.2.2.2.2.2.1; simp [World.cell?, this]
theorem Mem.fzD (M : Mem w wr Bf Sp buf sp A a R v ps rdn u ds dn) : wr.frozen? ⟨w.heap.size, 0, none⟩ = false := by have := M.2.2.2.2.2.1; simp [World.frozen?, this]
end
end Go.Proofs.YtnjjhklefamaoaaDoor
