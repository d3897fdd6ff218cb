/-
  Match: a subject that is the source's is written by the transform.
-/
import Derived.Test.YtocfcajafkkhdaaDoorVl
import Derived.Deep.QuietTactic
import Derived.BigQuiet
namespace Go.Proofs.YtocfcajafkkhdaaDoor
open Go.RowKit

/-- a text that is written -/
def PutPost (l : List UInt8) (w : World) (e : Ending) (w' : World) : Prop := e = .returned (.string ⟨l.toArray⟩) ∧ Below w.heap.size w w'
def MatchPost (l : List UInt8) (w : World) (e : Ending) (w' : World) : Prop := e = .returned (.tuple #[.string ⟨l.toArray⟩, .nilIface]) ∧ Below w.heap.size w w'
set_option maxHeartbeats 4000000 in
set_option maxRecDepth 100000 in
theorem match_hit (p : Nat) (src dest subj : ByteArray) (toks : List (List UInt8)) (l : List UInt8) (w : World) (hp : p < w.heap.size) (c0 : w.cell? ⟨p, 0, none⟩ = some (.string src)) (c1 : w.cell? ⟨p, 1, none⟩ = some (.string dest))
    (hs0 : 0 < src.size) (hs1 : src.size ≤ 100000) (hd0 : 0 < dest.size) (hd1 : dest.data.toList ≠ [62]) (hsub : subj.size ≤ 100000) (ht : sp 46 subj.data.toList = toks) (hn : toks.length ≤ 32) (hS : (sp 46 src.data.toList).length ≤ 32)
    (hw : ∀ t ∈ toks, Wd t) (hk : ∀ t ∈ sp 46 src.data.toList, Sk t) (hm : mtc toks (sp 46 src.data.toList) = true)
    (htr : ∀ (tg : Nat) (w' : World), Below w.heap.size w w' → K.Lies w' (some ⟨tg, 0, none⟩) toks.length (fun j => (toks.map sv).getD j undef) → Calls Tryd.prog 33 #[.pointer (some ⟨p, 0, none⟩), .slice (some ⟨tg, 0, none⟩) toks.length 32] w' (PutPost l w')) :
    Calls Tryd.prog 23 #[.pointer (some ⟨p, 0, none⟩), .string subj] w (MatchPost l w) := by
  have h29 := tok_any subj w hsub (by rw [ht]; exact hn)
  unfold TokPost at h29
  rw [ht] at h29
  have htn : 0 < toks.length := by rw [← ht]; exact List.length_pos_iff.2 (sp_ne 46 _)
  have ne0 : ∀ (s : ByteArray), 0 < s.size → s.toList.isEmpty = false := fun s hs => by
    rw [ByteArray.toList_eq, List.isEmpty_eq_false_iff]
    intro e
    have := K.bsize s
    rw [e] at this
    simp at this
    omega
  have e0 := ne0 src hs0
  have e1 := ne0 dest hd0
  have e2 : (dest.toList == [62]) = false := by rw [ByteArray.toList_eq, beq_eq_false_iff_ne]; exact hd1
  have HH := Lib.hid (And.intro hw (And.intro hk htr))
  have HM := Lib.hid hm
  clear ht hd1 ne0 hw hk htr hm
  by_cases hsrc : (src.toList == [62]) = true
  · go_enter Tryd.func23, Tryd.ntmps23
    go_wp2_with fail
    refine h29.mono ?_
    rintro e w1 ⟨tg, rfl, hb1, htg, hl1⟩
    have HB1 := Lib.hid (And.intro hb1 hl1)
    have hsz1 := hb1.size
    have d0 := (hb1.cell (p := ⟨p, 0, none⟩) hp).trans c0
    have d1 := (hb1.cell (p := ⟨p, 1, none⟩) hp).trans c1
    clear hb1 hl1 h29 htg
    go_wp2_with fail
    refine (made_any _ _ _ w1).mono ?_
    rintro e w2 ⟨rfl, hw2⟩
    have hb2 : Below w1.heap.size w1 w2 := by rw [hw2]; exact (Below.refl _ _).alloc (Nat.le_refl _) _
    have hcell : w2.cell? ⟨w1.heap.size, 0, none⟩ = some (.slice (some ⟨tg, 0, none⟩) toks.length 32) := by rw [hw2]; exact new_cell _ _ _
    have hsz2 : w1.heap.size < w2.heap.size := by rw [hw2]; simp
    have h30 := valid_any w1.heap.size tg 32 toks (by omega) htn w2 hsz2 hcell (HB1.out.2.below hb2 (Nat.le_refl _)) HH.out.1
    have HB2 := Lib.hid hb2
    clear hw2 hb2 hcell
    go_wp2_with fail
    refine h30.mono ?_
    rintro e w3 ⟨rfl, hb3⟩
    clear h30
    have HB3 := Lib.hid hb3
    have hb13 : Below w1.heap.size w1 w3 := HB2.out.trans (hb3.mono (Nat.le_of_lt hsz2))
    have hb03 : Below w.heap.size w w3 := HB1.out.1.trans (hb13.mono hsz1)
    have f0 := (hb03.cell (p := ⟨p, 0, none⟩) hp).trans c0
    have h33 := HH.out.2.2 tg w3 hb03 (HB1.out.2.below hb13 (Nat.le_refl _))
    have HB := Lib.hid hb03
    clear hb3 hb13 hb03
    go_wp2_with fail
    refine h33.mono ?_
    rintro e w4 ⟨rfl, hb4⟩
    clear h33
    go_wp2_with fail
    go_ret2
    exact ⟨rfl, HB.out.trans (hb4.mono HB.out.size)⟩
  · have hsrc : (src.toList == [62]) = false := by simpa using hsrc
    go_enter Tryd.func23, Tryd.ntmps23
    go_wp2_with fail
    refine h29.mono ?_
    rintro e w1 ⟨tg, rfl, hb1, htg, hl1⟩
    have HB1 := Lib.hid (And.intro hb1 hl1)
    have hsz1 := hb1.size
    have d0 := (hb1.cell (p := ⟨p, 0, none⟩) hp).trans c0
    have d1 := (hb1.cell (p := ⟨p, 1, none⟩) hp).trans c1
    clear hb1 hl1 h29 htg
    go_wp2_with fail
    refine (made_any _ _ _ w1).mono ?_
    rintro e w2 ⟨rfl, hw2⟩
    have hb2 : Below w1.heap.size w1 w2 := by rw [hw2]; exact (Below.refl _ _).alloc (Nat.le_refl _) _
    have hcell : w2.cell? ⟨w1.heap.size, 0, none⟩ = some (.slice (some ⟨tg, 0, none⟩) toks.length 32) := by rw [hw2]; exact new_cell _ _ _
    have hsz2 : w1.heap.size < w2.heap.size := by rw [hw2]; simp
    have h30 := valid_any w1.heap.size tg 32 toks (by omega) htn w2 hsz2 hcell (HB1.out.2.below hb2 (Nat.le_refl _)) HH.out.1
    have HB2 := Lib.hid hb2
    clear hw2 hb2 hcell
    go_wp2_with fail
    refine h30.mono ?_
    rintro e w3 ⟨rfl, hb3⟩
    clear h30
    have HB3 := Lib.hid hb3
    have hb13 : Below w1.heap.size w1 w3 := HB2.out.trans (hb3.mono (Nat.le_of_lt hsz2))
    have hb03 : Below w.heap.size w w3 := HB1.out.1.trans (hb13.mono hsz1)
    have f0 := (hb03.cell (p := ⟨p, 0, none⟩) hp).trans c0
    have h32 := issub_any tg toks src w3 hs1 hS (by omega) (HB1.out.2.below hb13 (Nat.le_refl _)) HH.out.1 HH.out.2.1
    rw [HM.out] at h32
    have h33 := fun (w4 : World) (hb4 : Below w3.heap.size w3 w4) => HH.out.2.2 tg w4 (hb03.trans (hb4.mono hb03.size)) ((HB1.out.2.below hb13 (Nat.le_refl _)).below hb4 (Nat.le_refl _))
    have HB := Lib.hid hb03
    clear hb3 hb13 hb03
    go_wp2_with fail
    refine h32.mono ?_
    rintro e w4 ⟨rfl, hb4⟩
    clear h32
    have h33 := h33 w4 hb4
    have HB4 := Lib.hid hb4
    clear hb4
    go_wp2_with fail
    refine h33.mono ?_
    rintro e w5 ⟨rfl, hb5⟩
    clear h33
    go_wp2_with fail
    go_ret2
    exact ⟨rfl, HB.out.trans ((HB4.out.trans (hb5.mono HB4.out.size)).mono HB.out.size)⟩
end Go.Proofs.YtocfcajafkkhdaaDoor
