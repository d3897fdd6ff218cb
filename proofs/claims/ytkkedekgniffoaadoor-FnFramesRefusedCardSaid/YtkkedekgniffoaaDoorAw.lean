/-
  awakeFrames: a frame's data are read; what is read of a text is one thing alone.
-/
import Derived.Test.YtkkedekgniffoaaDoorIm
namespace Go.Proofs.YtkkedekgniffoaaDoor
open Go.RowKit
open K (Lies strs Yes)
theorem reach_end {s s2 : Fr.St} {l l2 d : List UInt8} (h : Fr.Reach s l d s2 l2) (he : Fr.step s l = none) : d = [] ∧ s2 = s ∧ l2 = l := by
  cases h with
  | refl => exact ⟨rfl, rfl, rfl⟩
  | cons e _ => rw [he] at e; cases e
theorem reach_uniq {s s1 s2 : Fr.St} {l l1 l2 d1 d2 : List UInt8} (h1 : Fr.Reach s l d1 s1 l1) (e1 : Fr.step s1 l1 = none) (h2 : Fr.Reach s l d2 s2 l2) (e2 : Fr.step s2 l2 = none) : d1 = d2 ∧ s1 = s2 ∧ l1 = l2 := by
  obtain ⟨d3, h3, rfl⟩ := h1.rest h2 e2
  obtain ⟨rfl, rfl, rfl⟩ := reach_end h3 e1
  simp
/-- what one text gives -/
theorem one_flat (s : ByteArray) : ([s].flatMap fun t => t.data.toList) = s.data.toList := by simp
theorem awake_reach : ∃ s l, Fr.Reach Fr.start [130, 129, 0, 0, 0, 0, 120] [120] s l ∧ Fr.step s l = none ∧ Fr.fin s l = .fine := by
  obtain ⟨s, l, h1, h2, h3, _⟩ := Fr.go_right [((⟨2, true, [120]⟩ : Fr.F0), 0)] false (by decide) (by decide) 0 0 [0, 0, 0, 0]
  exact ⟨s, l, h1, h2, h3⟩
def AwakePost (w : World) (e : Ending) (w' : World) : Prop := ∃ (A : Option Addr) (n cap : Nat) (out : List ByteArray), e = .returned (.tuple #[.slice A n cap, .int .i64 0, .bool true]) ∧ Below w.heap.size w w' ∧ Lies w' A n (strs out) ∧ out.length = n ∧ n ≤ 900000 ∧ joinB out = ⟨#[120]⟩
theorem awake_frames (A : Option Addr) (cap : Nat) (w : World) (hA : Lies w A 1 (strs [⟨#[130, 129, 0, 0, 0, 0, 120]⟩])) (hT : Tabs w) (hE : ∃ te ve, w.cell? ⟨1, 0, none⟩ = some (.iface te ve)) : Calls Tryd.prog 10 #[.slice A 1 cap] w (AwakePost w) := by
  refine (frames_any A 1 cap [⟨#[130, 129, 0, 0, 0, 0, 120]⟩] w hA rfl (by omega) (by omega) (by decide) hT hE).mono ?_
  rintro e w' ⟨A2, n, cap2, out, cl, ok, s, l, rfl, h1, h2, h3, h4, h5, h6, h7⟩
  obtain ⟨s', l', g1, g2, g3⟩ := awake_reach
  obtain ⟨hd, rfl, rfl⟩ := reach_uniq h5 h6 g1 g2
  rw [g3] at h7
  rcases h7 with ⟨_, rfl, rfl⟩ | ⟨h, _⟩ | ⟨h, _⟩
  · exact ⟨A2, n, cap2, out, rfl, h1, h2, h3, h4, ba_of hd⟩
  · cases h
  · cases h

set_option maxRecDepth 100000 in
theorem awake_any (w : World) (hT : Tabs w) (hE : ∃ te ve, w.cell? ⟨1, 0, none⟩ = some (.iface te ve)) : Calls Tryd.prog 9 #[] w (Yes w) := by
  have hb0 : Below w.heap.size w (w.alloc (.cells #[.string ⟨#[130, 129, 0, 0, 0, 0, 120]⟩] 9)) := (Below.refl _ w).alloc (Nat.le_refl _) _
  have h10 := awake_frames _ 1 _ (K.lies_one w ⟨#[130, 129, 0, 0, 0, 0, 120]⟩ 9) (hT.below hb0) (by obtain ⟨te, ve, he⟩ := hE; exact ⟨te, ve, (hb0.cell (p := ⟨1, 0, none⟩) (World.block_lt_of_cell? _ _ he)).trans he⟩)
  have HB0 := Lib.hid hb0
  clear hT hE hb0
  go_enter Tryd.func9, Tryd.ntmps9
  go_wp2_with fail
  refine h10.mono ?_
  rintro e w1 ⟨A, n, cap, out, rfl, hb1, hl, hlen, hn, hj⟩
  have h11 := joined_any A n cap out w1 hl hlen (by omega) (by rw [hj]; decide)
  rw [show JoinPost out w1 = fun e w' => e = .returned (.string ⟨#[120]⟩) ∧ w' = w1 from by unfold JoinPost; rw [hj]] at h11
  have HB := Lib.hid (HB0.out.trans (hb1.mono (by simp)))
  clear hb1 hl hlen hj h10
  go_wp2_with fail
  refine h11.mono ?_
  rintro e w2 ⟨rfl, rfl⟩
  go_wp2_with fail
  go_ret
  exact ⟨rfl, HB.out⟩
end Go.Proofs.YtkkedekgniffoaaDoor
