import Derived.Test.YtjaodjeommkjgaaDoorPlain
import Derived.Deep.RegionHeld3
import Derived.Deep.AppendLies
import Derived.StillTailTactics
namespace Go.Proofs.YtjaodjeommkjgaaDoor
open Go.RowKit
open K (Lies)

theorem info5 : (Tryd.prog.info? 5).map (fun i => (i.zero, i.size, i.bytes)) = some (some (.int .u8 0), 1, 1) := by kernel_rfl

/-- a byte in a cell -/
def bv (c : UInt8) : Value := .int .u8 (c.toNat : Int)
def bvs (l : List UInt8) : List Value := l.map bv
theorem bvs_one (l : List UInt8) : ∀ u ∈ bvs l, u.oneCell' = true := by
  intro u hu
  obtain ⟨c, _, rfl⟩ := List.mem_map.1 hu
  rfl

/-- The blocks of a conversion: the text's slice, whether a copy has been made, the result's slice. -/
structure Conv (B : Nat) (mt : Value) (cp : Bool) (res : Value) (w : World) : Prop where
  m : w.heap[B]? = some (.cells #[mt] 37 (0, 0))
  c : w.heap[B + 1]? = some (.cells #[.bool cp] 4 (0, 0))
  r : w.heap[B + 2]? = some (.cells #[res] 37 (0, 0))

theorem Conv.drewN {B : Nat} {mt res : Value} {cp : Bool} {w : World} (h : Conv B mt cp res w) (n : Nat) : Conv B mt cp res (w.drewN n) := ⟨h.m, h.c, h.r⟩
theorem Conv.cm {B : Nat} {mt res : Value} {cp : Bool} {w : World} (h : Conv B mt cp res w) : w.cell? ⟨B, 0, none⟩ = some mt := by have := h.m; simp [World.cell?, this]
theorem Conv.cc {B : Nat} {mt res : Value} {cp : Bool} {w : World} (h : Conv B mt cp res w) : w.cell? ⟨B + 1, 0, none⟩ = some (.bool cp) := by have := h.c; simp [World.cell?, this]
theorem Conv.cr {B : Nat} {mt res : Value} {cp : Bool} {w : World} (h : Conv B mt cp res w) : w.cell? ⟨B + 2, 0, none⟩ = some res := by have := h.r; simp [World.cell?, this]
theorem Conv.fc {B : Nat} {mt res : Value} {cp : Bool} {w : World} (h : Conv B mt cp res w) : w.frozen? ⟨B + 1, 0, none⟩ = false := by have := h.c; simp [World.frozen?, this]
theorem Conv.fr {B : Nat} {mt res : Value} {cp : Bool} {w : World} (h : Conv B mt cp res w) : w.frozen? ⟨B + 2, 0, none⟩ = false := by have := h.r; simp [World.frozen?, this]
theorem Conv.size {B : Nat} {mt res : Value} {cp : Bool} {w : World} (h : Conv B mt cp res w) : B + 3 ≤ w.heap.size := by
  have := (Array.getElem?_eq_some_iff.1 h.r).1; omega
theorem Conv.below {B : Nat} {mt res : Value} {cp : Bool} {w w' : World} (h : Conv B mt cp res w) (hb : Below (B + 3) w w') : Conv B mt cp res w' :=
  ⟨(hb.block _ (by omega)).trans h.m, (hb.block _ (by omega)).trans h.c, (hb.block _ (by omega)).trans h.r⟩
theorem Conv.setC {B : Nat} {mt res : Value} {cp : Bool} {w : World} (h : Conv B mt cp res w) (b : Bool) : Conv B mt b res (w.setCell ⟨B + 1, 0, none⟩ (.bool b)) :=
  ⟨(Below.heap_setCell _ _ _ _ (by simp)).trans h.m, K.heap_setCell_at h.c _, (Below.heap_setCell _ _ _ _ (by simp)).trans h.r⟩
theorem Conv.setR {B : Nat} {mt res : Value} {cp : Bool} {w : World} (h : Conv B mt cp res w) (v : Value) : Conv B mt cp v (w.setCell ⟨B + 2, 0, none⟩ v) :=
  ⟨(Below.heap_setCell _ _ _ _ (by simp)).trans h.m, (Below.heap_setCell _ _ _ _ (by simp)).trans h.c, K.heap_setCell_at h.r _⟩

theorem Conv.grow {B : Nat} {mt res : Value} {cp : Bool} {w w' : World} {row : Option Nat} (h : Conv B mt cp res w) (hg : w.grownBy w' row) (hr : ∀ g, row = some g → B + 3 ≤ g) : Conv B mt cp res w' := by
  have hs := h.size
  have hne : ∀ b, b < B + 3 → some b ≠ row := fun b hb e => by have := hr b e.symm; omega
  exact ⟨(hg.block _ (by omega) (hne _ (by omega))).trans h.m, (hg.block _ (by omega) (hne _ (by omega))).trans h.c, (hg.block _ (by omega) (hne _ (by omega))).trans h.r⟩

/-- what lies at an address, byte by byte -/
def BytesAt (w : World) (ab ao : Nat) (l : List UInt8) : Prop := ∀ j, j < l.length → w.cell? ⟨ab, ao + j, none⟩ = some (bv (l.getD j 0))
theorem BytesAt.below {w w' : World} {B ab ao : Nat} {l : List UInt8} (h : BytesAt w ab ao l) (hb : Below B w w') (ha : ab < B) : BytesAt w' ab ao l :=
  fun j hj => (hb.cell (p := ⟨ab, ao + j, none⟩) ha).trans (h j hj)

theorem BytesAt.grow {w w' : World} {ab ao : Nat} {l : List UInt8} {row : Option Nat} (h : BytesAt w ab ao l) (hg : w.grownBy w' row) (hlt : ab < w.heap.size) (hne : some ab ≠ row) : BytesAt w' ab ao l :=
  fun j hj => (hg.cell_far ⟨ab, ao + j, none⟩ hlt hne).trans (h j hj)
theorem BytesAt.set {w : World} {ab ao : Nat} {l : List UInt8} (h : BytesAt w ab ao l) (p : Addr) (v : Value) (hp : ab ≠ p.block) : BytesAt (w.setCell p v) ab ao l :=
  fun j hj => (World.cell?_of_block (Below.heap_setCell _ _ _ _ hp)).trans (h j hj)

theorem BytesAt.news {w : World} {ab ao : Nat} {l : List UInt8} (h : BytesAt w ab ao l) (m : Nat) (hm : m ≤ l.length) : ∀ j u, (bvs (l.take m))[j]? = some u → w.cell? ((⟨ab, ao, none⟩ : Addr).add j) = some u := by
  intro j u hu
  rw [K.addr_add _ rfl]
  have hj : j < (bvs (l.take m)).length := (List.getElem?_eq_some_iff.1 hu).1
  have hj2 : j < m := by simp [bvs] at hj; omega
  rw [h j (by omega)]
  rw [← hu]
  simp [bvs, hj2, List.getD, List.getElem?_eq_getElem (show j < l.length by omega)]

def CopyPost (B : Nat) (mt : Value) (l : List UInt8) (i : Nat) (w : World) (e : Ending) (w' : World) : Prop :=
  ∃ g cap, e = .returned (.tuple #[]) ∧ Conv B mt true (.slice (some ⟨g, 0, none⟩) i cap) w' ∧ w'.ownsRow (B + 3) 5 1 (.slice (some ⟨g, 0, none⟩) i cap) i (bvs (l.take i)) ∧ Below (B + 1) w w'

set_option maxHeartbeats 1000000 in
set_option maxRecDepth 100000 in
theorem makeCopy_any (B ab ao n cap : Nat) (l : List UInt8) (i : Nat) (res : Value) (cp : Bool) (w : World) (hl : l.length = n) (hi : i ≤ n) (hn : n ≤ 100000) (hnc : n ≤ cap) (hab : ab < B)
    (hC : Conv B (.slice (some ⟨ab, ao, none⟩) n cap) cp res w) (hB : BytesAt w ab ao l) :
    Calls Tryd.prog 44 #[.int .i64 i, .pointer (some ⟨B + 1, 0, none⟩), .pointer (some ⟨B, 0, none⟩), .pointer (some ⟨B + 2, 0, none⟩)] w (CopyPost B (.slice (some ⟨ab, ao, none⟩) n cap) l i w) := by
  obtain ⟨i0, hi0, hz0, hz1, hz2⟩ := info_parts info5
  have HI0 := Lib.hid hi0
  have HI1 := Lib.hid hz0
  have HI2 := Lib.hid hz1
  have HI3 := Lib.hid hz2
  have HL := Lib.hid hl
  have HB := Lib.hid hB
  have hsz := hC.size
  have HC := Lib.hid hC
  have c1 := hC.cc
  have f1 := hC.fc
  have c0 := (hC.setC true).cm
  clear hi0 hz0 hz1 hz2 hl hB hC
  go_enter Tryd.func44, Tryd.ntmps44
  go_wp2_with (at_make; refine wpList_make_own _ rfl (.const (.int .i64 0)) (.tmp 7) 37 rfl (B + 3) 5 i0 (.int .u8 0) 1 Tryd.underlying37 HI0.out HI1.out HI2.out .i64 .i64 _ (n + 10) rfl rfl (by omega) (by rw [HI3.out]; omega) (by unfold maxLen; omega) (by simp; omega) ?_; intro w1 hown1 hgrow1; have HC1 := Lib.hid ((HC.out.setC true).grow hgrow1 (by simp)); have c2 := HC1.out.cr; have f2 := HC1.out.fr; rw [show (w.setCell ⟨B + 1, 0, none⟩ (.bool true)).heap.size = w.heap.size from by simp] at hown1; have HO1 := Lib.hid hown1; have HG1 := Lib.hid hgrow1; clear hown1 hgrow1)
  all_goals
    (have HC2 := Lib.hid (HC1.out.setR (.slice (some ⟨w.heap.size, 0, none⟩) 0 (n + 10)))
     have HO2 := Lib.hid (ownsRow_setCell_below HO1.out (a := ⟨B + 2, 0, none⟩) (by simp) (.slice (some ⟨w.heap.size, 0, none⟩) 0 (n + 10)))
     have HB2 := Lib.hid (((HB.out.set ⟨B + 1, 0, none⟩ (.bool true) (by simp; omega)).grow HG1.out (by simp; omega) (by simp)).set ⟨B + 2, 0, none⟩ (.slice (some ⟨w.heap.size, 0, none⟩) 0 (n + 10)) (by simp; omega))
     have HW2 := Lib.hid ((((Below.refl (B + 1) w).setCell (p := ⟨B + 1, 0, none⟩) (by simp) (.bool true)).grown HG1.out (by simp; omega) (by simp)).setCell (p := ⟨B + 2, 0, none⟩) (by simp) (.slice (some ⟨w.heap.size, 0, none⟩) 0 (n + 10)))
     generalize w1.setCell ⟨B + 2, 0, none⟩ (.slice (some ⟨w.heap.size, 0, none⟩) 0 (n + 10)) = w2 at HC2 HO2 HB2 HW2 ⊢
     clear HO1 HG1 HC1 c2 f2)
  · have c3 := HC2.out.cr
    have c4 := HC2.out.cm
    have q1 : (i : Int) ≤ (cap : Int) := by omega
    have q2 : (0 : Int) ≤ (i : Int) := by omega
    go_still_tail 4, (by kernel_rfl)
    refine wpList_append_lies _ rfl (.tmp 11) (.tmp 14) 37 rfl (B + 3) 5 i0 (.int .u8 0) 1 1 Tryd.underlying37 HI0.out HI1.out HI2.out HI3.out rfl (by decide) _ _ _ rfl (HO2.out.drew) ⟨ab, ao, none⟩ i cap (bvs (l.take i)) rfl (by have := HL.out; simp [bvs]; omega) (HB2.out.news i (by have := HL.out; omega)) (bvs_one _) (by omega) (by unfold maxLen; omega) (by omega) (by have := HW2.out.size; simp; omega) _ rfl ?_
    intro g2 cap2 w3 hown3 hgrow3 hat3 hlt3
    have HC3 := Lib.hid ((HC2.out.drewN 1).grow hgrow3 (by intro q hq; have := HO2.out.lt q hq; omega))
    have HO3 := Lib.hid hown3
    have HG3 := Lib.hid hgrow3
    have HT3 := Lib.hid hat3
    clear hown3 hgrow3 hat3
    have c5 := HC3.out.cr
    have f5 := HC3.out.fr
    go_wp2_with fail
    go_end0
    refine ⟨g2, cap2, rfl, HC3.out.setR _, ownsRow_setCell_below (by have h := HO3.out; simpa using h) (by simp) _, Below.setCell ((Below.drew HW2.out).grown HG3.out (by have := HC2.out.size; have : w2.drew.heap.size = w2.heap.size := rfl; omega) ?_) (by simp) _⟩
    intro k hk
    have := HO2.out.lt k hk
    omega
  · go_end0
    obtain rfl : i = 0 := by omega
    exact ⟨w.heap.size, n + 10, rfl, HC2.out, by simpa [bvs] using HO2.out, HW2.out⟩
end Go.Proofs.YtjaodjeommkjgaaDoor
