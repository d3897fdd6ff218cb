/-
  client.keep: a ping is kept.
-/
import Derived.Test.YtkkedekgniffoaaDoorSm
import Derived.Deep.AppendLies
namespace Go.Proofs.YtkkedekgniffoaaDoor
open Go.RowKit

def zk : Value := .agg #[.int .i64 0, .string ⟨#[]⟩, .string ⟨#[]⟩, .string ⟨#[]⟩, .string ⟨#[]⟩, .string ⟨#[]⟩, .int .i64 0, .string ⟨#[]⟩, .string ⟨#[]⟩]
theorem info93 : (Tryd.prog.info? 93).map (fun i => (i.zero, i.size, i.bytes)) = some (some zk, 9, 128) := by kernel_rfl

/-- the client's row: what is kept, how it was closed -/
def CAt (w : World) (C : Nat) (kv : Value) (cl : Nat) : Prop := ∃ cs, w.heap[C]? = some (.cells cs 61 (0, 0)) ∧ cs[4128]? = some kv ∧ cs[4129]? = some (.int .i64 cl)
theorem CAt.c {w : World} {C : Nat} {kv : Value} {cl : Nat} (h : CAt w C kv cl) : w.cell? ⟨C, 4128, none⟩ = some kv := by obtain ⟨cs, h1, h2, h3⟩ := h; simp only [World.cell?, h1]; simpa using h2
theorem CAt.d {w : World} {C : Nat} {kv : Value} {cl : Nat} (h : CAt w C kv cl) : w.cell? ⟨C, 4129, none⟩ = some (.int .i64 cl) := by obtain ⟨cs, h1, h2, h3⟩ := h; simp only [World.cell?, h1]; simpa using h3
theorem CAt.fz {w : World} {C : Nat} {kv : Value} {cl : Nat} (h : CAt w C kv cl) (i : Nat) : w.frozen? ⟨C, i, none⟩ = false := by obtain ⟨cs, h1, h2, h3⟩ := h; simp [World.frozen?, h1]
theorem CAt.at {w w' : World} {C : Nat} {kv : Value} {cl : Nat} (h : CAt w C kv cl) (e : w'.heap[C]? = w.heap[C]?) : CAt w' C kv cl := by obtain ⟨cs, h1, h2⟩ := h; exact ⟨cs, e.trans h1, h2⟩
theorem CAt.lt {w : World} {C : Nat} {kv : Value} {cl : Nat} (h : CAt w C kv cl) : C < w.heap.size := by obtain ⟨cs, h1, _⟩ := h; exact (Array.getElem?_eq_some_iff.1 h1).1
theorem CAt.setK {w : World} {C : Nat} {kv : Value} {cl : Nat} (h : CAt w C kv cl) (u : Value) : CAt (w.setCell ⟨C, 4128, none⟩ u) C u cl := by
  obtain ⟨cs, h1, h2, h3⟩ := h
  have hlt := (Array.getElem?_eq_some_iff.1 h2).1
  exact ⟨_, K.heap_setCell_at h1 _, by rw [Array.getElem?_setIfInBounds, if_pos rfl, if_pos hlt], by rw [Array.getElem?_setIfInBounds, if_neg (by omega)]; exact h3⟩
theorem CAt.setC {w : World} {C : Nat} {kv : Value} {cl : Nat} (h : CAt w C kv cl) (n : Nat) : CAt (w.setCell ⟨C, 4129, none⟩ (.int .i64 n)) C kv n := by
  obtain ⟨cs, h1, h2, h3⟩ := h
  have hlt := (Array.getElem?_eq_some_iff.1 h3).1
  exact ⟨_, K.heap_setCell_at h1 _, by rw [Array.getElem?_setIfInBounds, if_neg (by omega)]; exact h2, by rw [Array.getElem?_setIfInBounds, if_pos rfl, if_pos hlt]⟩
def KOwn (w : World) (B1 : Nat) (kv : Value) (nk : Nat) : Prop := ∃ xs, w.ownsRow B1 93 9 kv nk xs
theorem own_move {w w' : World} {B1 e sz n : Nat} {v : Value} {xs : List Value} (h : w.ownsRow B1 e sz v n xs) (hb : ∀ g, v.ownBlock = some g → w'.heap[g]? = w.heap[g]?) : w'.ownsRow B1 e sz v n xs := by
  obtain ⟨h1, h2⟩ := h
  refine ⟨h1, ?_⟩
  rcases h2 with h2 | ⟨g, cap, cur, rfl, h3, h4, h5⟩
  · exact Or.inl h2
  · exact Or.inr ⟨g, cap, cur, rfl, h3, (hb g rfl).trans h4, h5⟩
theorem own_blk {w : World} {B1 e sz n : Nat} {v : Value} {xs : List Value} (h : w.ownsRow B1 e sz v n xs) {g : Nat} (hg : v.ownBlock = some g) : B1 ≤ g ∧ ∃ cur, w.heap[g]? = some (.cells cur e (0, 0)) := by
  obtain ⟨h1, h2⟩ := h
  rcases h2 with ⟨rfl, _⟩ | ⟨g', cap, cur, rfl, h3, h4, h5⟩
  · cases hg
  · cases hg; exact ⟨h3, cur, h4⟩
theorem own_lt {w : World} {B1 e sz n : Nat} {v : Value} {xs : List Value} (h : w.ownsRow B1 e sz v n xs) {g : Nat} (hg : v.ownBlock = some g) : g < w.heap.size := by
  obtain ⟨_, cur, h4⟩ := own_blk h hg
  exact (Array.getElem?_eq_some_iff.1 h4).1

def KeepPost (C B1 nk : Nat) (kv : Value) (cl : Nat) (w : World) (e : Ending) (w' : World) : Prop :=
  e = .returned (.tuple #[]) ∧ ∃ kv', CAt w' C kv' cl ∧ KOwn w' B1 kv' (nk + 1) ∧ But (fun k => k = C ∨ kv.ownBlock = some k) w w'

set_option maxHeartbeats 4000000 in
set_option maxRecDepth 100000 in
theorem keep_any (C B1 nk cl : Nat) (kv : Value) (t : ByteArray) (w : World) (hC : CAt w C kv cl) (hK : KOwn w B1 kv nk) (hn : nk ≤ 1000000) (hB : B1 ≤ w.heap.size) (hCB : C < B1) :
    Calls Tryd.prog 34 #[.pointer (some ⟨C, 0, none⟩), .agg #[.int .i64 3, .string t, .string ⟨#[]⟩, .string ⟨#[]⟩, .string ⟨#[]⟩, .string ⟨#[]⟩, .int .i64 0, .string ⟨#[]⟩, .string ⟨#[]⟩]] w (KeepPost C B1 nk kv cl w) := by
  obtain ⟨i0, hi0, hz0, hz1, hz2⟩ := info_parts info93
  obtain ⟨xs, hK⟩ := hK
  have HC := Lib.hid hC
  have HK := Lib.hid hK
  have hlt := hC.lt
  have c0 : (w.alloc (.cells #[.int .i64 3, .string t, .string ⟨#[]⟩, .string ⟨#[]⟩, .string ⟨#[]⟩, .string ⟨#[]⟩, .int .i64 0, .string ⟨#[]⟩, .string ⟨#[]⟩] 93)).cell? ⟨C, 4128, none⟩ = some kv := (hC.at (Below.heap_alloc _ _ _ hlt)).c
  have hrow : (w.alloc (.cells #[.int .i64 3, .string t, .string ⟨#[]⟩, .string ⟨#[]⟩, .string ⟨#[]⟩, .string ⟨#[]⟩, .int .i64 0, .string ⟨#[]⟩, .string ⟨#[]⟩] 93)).heap[w.heap.size]? = some (.cells #[.int .i64 3, .string t, .string ⟨#[]⟩, .string ⟨#[]⟩, .string ⟨#[]⟩, .string ⟨#[]⟩, .int .i64 0, .string ⟨#[]⟩, .string ⟨#[]⟩] 93 (0, 0)) := K.heap_alloc_at _ _
  have hA := (Below.refl w.heap.size w).alloc (Nat.le_refl _) (.cells #[.int .i64 3, .string t, .string ⟨#[]⟩, .string ⟨#[]⟩, .string ⟨#[]⟩, .string ⟨#[]⟩, .int .i64 0, .string ⟨#[]⟩, .string ⟨#[]⟩] 93)
  have hAs : (w.alloc (.cells #[.int .i64 3, .string t, .string ⟨#[]⟩, .string ⟨#[]⟩, .string ⟨#[]⟩, .string ⟨#[]⟩, .int .i64 0, .string ⟨#[]⟩, .string ⟨#[]⟩] 93)).heap.size = w.heap.size + 1 := by simp
  clear hC hK
  go_enter Tryd.func34, Tryd.ntmps34
  go_wp2_with fail
  generalize w.alloc (.cells #[.int .i64 3, .string t, .string ⟨#[]⟩, .string ⟨#[]⟩, .string ⟨#[]⟩, .string ⟨#[]⟩, .int .i64 0, .string ⟨#[]⟩, .string ⟨#[]⟩] 93) = w1 at c0 hrow hA hAs ⊢
  have HW := Lib.hid (And.intro hA (And.intro hrow hAs))
  have k0 : w1.cell? ⟨w.heap.size, 0, none⟩ = some (.int .i64 3) := by simp [World.cell?, hrow]
  have k1 : w1.cell? ⟨w.heap.size, 1, none⟩ = some (.string t) := by simp [World.cell?, hrow]
  have k2 : w1.cell? ⟨w.heap.size, 2, none⟩ = some (.string ⟨#[]⟩) := by simp [World.cell?, hrow]
  have k3 : w1.cell? ⟨w.heap.size, 3, none⟩ = some (.string ⟨#[]⟩) := by simp [World.cell?, hrow]
  have k4 : w1.cell? ⟨w.heap.size, 4, none⟩ = some (.string ⟨#[]⟩) := by simp [World.cell?, hrow]
  have k5 : w1.cell? ⟨w.heap.size, 5, none⟩ = some (.string ⟨#[]⟩) := by simp [World.cell?, hrow]
  have k6 : w1.cell? ⟨w.heap.size, 6, none⟩ = some (.int .i64 0) := by simp [World.cell?, hrow]
  have k7 : w1.cell? ⟨w.heap.size, 7, none⟩ = some (.string ⟨#[]⟩) := by simp [World.cell?, hrow]
  have k8 : w1.cell? ⟨w.heap.size, 8, none⟩ = some (.string ⟨#[]⟩) := by simp [World.cell?, hrow]
  clear hA hAs hrow
  have hs1 : w1.heap.size = w.heap.size + 1 := HW.out.2.2
  have hkm : (w1.alloc (.cells #[.int .i64 3, .string t, .string ⟨#[]⟩, .string ⟨#[]⟩, .string ⟨#[]⟩, .string ⟨#[]⟩, .int .i64 0, .string ⟨#[]⟩, .string ⟨#[]⟩] 93)).drew.ownsRow B1 93 9 kv nk xs := own_move HK.out fun g hg => by
    have h1 := own_lt HK.out hg
    exact (Below.heap_alloc _ _ _ (by omega)).trans (HW.out.1.block g h1)
  have hnw : (w1.alloc (.cells #[.int .i64 3, .string t, .string ⟨#[]⟩, .string ⟨#[]⟩, .string ⟨#[]⟩, .string ⟨#[]⟩, .int .i64 0, .string ⟨#[]⟩, .string ⟨#[]⟩] 93)).drew.heap[w1.heap.size]? = some (.cells #[.int .i64 3, .string t, .string ⟨#[]⟩, .string ⟨#[]⟩, .string ⟨#[]⟩, .string ⟨#[]⟩, .int .i64 0, .string ⟨#[]⟩, .string ⟨#[]⟩] 93 (0, 0)) := K.heap_alloc_at _ _
  have hne : some C ≠ kv.ownBlock := fun e => by have := (own_blk HK.out e.symm).1; omega
  have hCf : (w1.alloc (.cells #[.int .i64 3, .string t, .string ⟨#[]⟩, .string ⟨#[]⟩, .string ⟨#[]⟩, .string ⟨#[]⟩, .int .i64 0, .string ⟨#[]⟩, .string ⟨#[]⟩] 93)).drew.frozen? ⟨C, 4128, none⟩ = false := (HC.out.at ((Below.heap_alloc w1 _ C (by omega)).trans (HW.out.1.block C hlt))).fz 4128
  have hCc : (w1.alloc (.cells #[.int .i64 3, .string t, .string ⟨#[]⟩, .string ⟨#[]⟩, .string ⟨#[]⟩, .string ⟨#[]⟩, .int .i64 0, .string ⟨#[]⟩, .string ⟨#[]⟩] 93)).drew.cell? ⟨C, 4128, none⟩ = some kv := (HC.out.at ((Below.heap_alloc w1 _ C (by omega)).trans (HW.out.1.block C hlt))).c
  have hCa : CAt (w1.alloc (.cells #[.int .i64 3, .string t, .string ⟨#[]⟩, .string ⟨#[]⟩, .string ⟨#[]⟩, .string ⟨#[]⟩, .int .i64 0, .string ⟨#[]⟩, .string ⟨#[]⟩] 93)).drew C kv cl := HC.out.at ((Below.heap_alloc w1 _ C (by omega)).trans (HW.out.1.block C hlt))
  have hBb : Below w.heap.size w (w1.alloc (.cells #[.int .i64 3, .string t, .string ⟨#[]⟩, .string ⟨#[]⟩, .string ⟨#[]⟩, .string ⟨#[]⟩, .int .i64 0, .string ⟨#[]⟩, .string ⟨#[]⟩] 93)).drew := Below.drew (HW.out.1.alloc (by omega) _)
  have hsz2 : (w1.alloc (.cells #[.int .i64 3, .string t, .string ⟨#[]⟩, .string ⟨#[]⟩, .string ⟨#[]⟩, .string ⟨#[]⟩, .int .i64 0, .string ⟨#[]⟩, .string ⟨#[]⟩] 93)).drew.heap.size = w1.heap.size + 1 := by simp
  have HH := Lib.hid (And.intro hkm (And.intro hnw (And.intro hCf (And.intro hCc (And.intro hCa (And.intro hBb hsz2))))))
  have hCs : C < w1.heap.size + 1 := by omega
  have hBs : B1 ≤ w1.heap.size + 1 := by omega
  have hCc1 : (w1.alloc (.cells #[.int .i64 3, .string t, .string ⟨#[]⟩, .string ⟨#[]⟩, .string ⟨#[]⟩, .string ⟨#[]⟩, .int .i64 0, .string ⟨#[]⟩, .string ⟨#[]⟩] 93)).cell? ⟨C, 4128, none⟩ = some kv := hCc
  have hCs1 : C < w1.heap.size := by omega
  clear hkm hnw hCf hCc hCa hBb hsz2 hs1
  go_region_law
    ((refine step_append_lies _ (by rfl) _ _ _ (by rfl) B1 93 i0 zk 9 128 Tryd.underlying44 hi0 hz0 hz1 hz2 rfl (by omega) kv nk xs (by rfl) HH.out.1
        ⟨w1.heap.size, 0, none⟩ 1 1 [.int .i64 3, .string t, .string ⟨#[]⟩, .string ⟨#[]⟩, .string ⟨#[]⟩, .string ⟨#[]⟩, .int .i64 0, .string ⟨#[]⟩, .string ⟨#[]⟩] (by rfl) (by rfl) (World.news_of_block (cs := #[.int .i64 3, .string t, .string ⟨#[]⟩, .string ⟨#[]⟩, .string ⟨#[]⟩, .string ⟨#[]⟩, .int .i64 0, .string ⟨#[]⟩, .string ⟨#[]⟩]) (t := 93) (fr := (0, 0)) HH.out.2.1) (by simp [Value.oneCell'])
        (by omega) (by unfold maxLen; omega) (by omega) (by rw [HH.out.2.2.2.2.2.2]; exact hBs) (w1.heap.size + 1) HH.out.2.2.2.2.2.2 ?_; intro gg cp w2 hown1 hgrow hat hlt1
      have x1 : w2.cell? ⟨C, 4128, none⟩ = some kv := (hgrow.cell_far _ (by rw [HH.out.2.2.2.2.2.2]; exact hCs) hne).trans HH.out.2.2.2.1
      have x2 : w2.frozen? ⟨C, 4128, none⟩ = false := (hgrow.frozen_far _ (by rw [HH.out.2.2.2.2.2.2]; exact hCs) hne).trans HH.out.2.2.1))
  all_goals
    have HQ := Lib.hid (And.intro hown1 hgrow)
    clear hown1 hgrow x1 x2
    go_wp2_with fail
    go_end0
    have hC2 : CAt w2 C kv cl := HH.out.2.2.2.2.1.at (HQ.out.2.block C (by rw [HH.out.2.2.2.2.2.2]; exact hCs) hne)
    refine ⟨rfl, _, hC2.setK _, ⟨_, own_move HQ.out.1 fun g hg => Below.heap_setCell _ _ _ _ ?_⟩, ?_⟩
    · have := (own_blk HQ.out.1 hg).1
      show g ≠ C
      omega
    · have hb0 : But (fun k => k = C ∨ kv.ownBlock = some k) w (w1.alloc (.cells #[.int .i64 3, .string t, .string ⟨#[]⟩, .string ⟨#[]⟩, .string ⟨#[]⟩, .string ⟨#[]⟩, .int .i64 0, .string ⟨#[]⟩, .string ⟨#[]⟩] 93)).drew := But.of HH.out.2.2.2.2.2.1
      have hb1 : But (fun k => k = C ∨ kv.ownBlock = some k) (w1.alloc (.cells #[.int .i64 3, .string t, .string ⟨#[]⟩, .string ⟨#[]⟩, .string ⟨#[]⟩, .string ⟨#[]⟩, .int .i64 0, .string ⟨#[]⟩, .string ⟨#[]⟩] 93)).drew w2 := ⟨HQ.out.2.os, HQ.out.2.tape, HQ.out.2.output, HQ.out.2.size, fun k hk hs => HQ.out.2.block k hk (fun e => hs (Or.inr e.symm))⟩
      exact (hb0.trans hb1).setCell _ _ (Or.inl rfl)
end Go.Proofs.YtkkedekgniffoaaDoor
