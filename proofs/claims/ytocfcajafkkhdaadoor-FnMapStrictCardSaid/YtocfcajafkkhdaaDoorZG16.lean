/-
  Match: a subject that is the source's is written by the transform.
  impl.Map and impl.ValidMapping where the source has wildcards and the destination's tokens are words and wildcards.
  Match: a subject that is not the source's is refused.
  awakeMap: a subject is mapped at all.
-/
import Derived.Test.YtocfcajafkkhdaaDoorZVl
import Derived.Test.YtocfcajafkkhdaaDoorZG7
import Derived.Test.YtocfcajafkkhdaaDoorZG2
import Derived.Deep.QuietTactic
import Derived.BigQuiet
/- Mt -/
section
namespace Go.Proofs.YtocfcajafkkhdaaDoor
open Go.RowKit

/-- a text that is written -/
def PutPost (l : List UInt8) (w : World) (e : Ending) (w' : World) : Prop := e = .returned (.string ⟨l.toArray⟩) ∧ Below w.heap.size w w'
def MatchPost (l : List UInt8) (w : World) (e : Ending) (w' : World) : Prop := e = .returned (.tuple #[.string ⟨l.toArray⟩, .nilIface]) ∧ Below w.heap.size w w'
set_option maxHeartbeats 4000000 in
set_option maxRecDepth 100000 in
theorem match_hit (p : Nat) (src dest subj : ByteArray) (toks : List (List UInt8)) (l : List UInt8) (w : World) (hp : p < w.heap.size) (c0 : w.cell? ⟨p, 0, none⟩ = some (.string src)) (c1 : w.cell? ⟨p, 1, none⟩ = some (.string dest))
    (hs0 : 0 < src.size) (hs1 : src.size ≤ 100000) (hd0 : 0 < dest.size) (hd1 : dest.data.toList ≠ [62]) (hsub : subj.size ≤ 100000) (ht : sp 46 subj.data.toList = toks) (hn : toks.length ≤ 32) (hS : (sp 46 src.data.toList).length ≤ 32)
    (hw : ∀ t ∈ toks, Wd t) (hk : ∀ t ∈ sp 46 src.data.toList, Sk t) (hm : mtc toks (sp 46 src.data.toList) = true)
    (htr : ∀ (tg : Nat) (w' : World), Below w.heap.size w w' → K.Lies w' (some ⟨tg, 0, none⟩) toks.length (fun j => (toks.map sv).getD j undef) → Calls Tryd.prog 33 #[.pointer (some ⟨p, 0, none⟩), .slice (some ⟨tg, 0, none⟩) toks.length 32] w' (PutPost l w')) :
    Calls Tryd.prog 23 #[.pointer (some ⟨p, 0, none⟩), .string subj] w (MatchPost l w) := by
  have h29 := tok_any subj w hsub (by rw [ht]; exact hn)
  unfold TokPost at h29
  rw [ht] at h29
  have htn : 0 < toks.length := by rw [← ht]; exact List.length_pos_iff.2 (sp_ne 46 _)
  have ne0 : ∀ (s : ByteArray), 0 < s.size → s.toList.isEmpty = false := fun s hs => by
    rw [ByteArray.toList_eq, List.isEmpty_eq_false_iff]
    intro e
    have := K.bsize s
    rw [e] at this
    simp at this
    omega
  have e0 := ne0 src hs0
  have e1 := ne0 dest hd0
  have e2 : (dest.toList == [62]) = false := by rw [ByteArray.toList_eq, beq_eq_false_iff_ne]; exact hd1
  have HH := Lib.hid (And.intro hw (And.intro hk htr))
  have HM := Lib.hid hm
  clear ht hd1 ne0 hw hk htr hm
  by_cases hsrc : (src.toList == [62]) = true
  · go_enter Tryd.func23, Tryd.ntmps23
    go_wp2_with fail
    refine h29.mono ?_
    rintro e w1 ⟨tg, rfl, hb1, htg, hl1⟩
    have HB1 := Lib.hid (And.intro hb1 hl1)
    have hsz1 := hb1.size
    have d0 := (hb1.cell (p := ⟨p, 0, none⟩) hp).trans c0
    have d1 := (hb1.cell (p := ⟨p, 1, none⟩) hp).trans c1
    clear hb1 hl1 h29 htg
    go_wp2_with fail
    refine (made_any _ _ _ w1).mono ?_
    rintro e w2 ⟨rfl, hw2⟩
    have hb2 : Below w1.heap.size w1 w2 := by rw [hw2]; exact (Below.refl _ _).alloc (Nat.le_refl _) _
    have hcell : w2.cell? ⟨w1.heap.size, 0, none⟩ = some (.slice (some ⟨tg, 0, none⟩) toks.length 32) := by rw [hw2]; exact new_cell _ _ _
    have hsz2 : w1.heap.size < w2.heap.size := by rw [hw2]; simp
    have h30 := valid_any w1.heap.size tg 32 toks (by omega) htn w2 hsz2 hcell (HB1.out.2.below hb2 (Nat.le_refl _)) HH.out.1
    have HB2 := Lib.hid hb2
    clear hw2 hb2 hcell
    go_wp2_with fail
    refine h30.mono ?_
    rintro e w3 ⟨rfl, hb3⟩
    clear h30
    have HB3 := Lib.hid hb3
    have hb13 : Below w1.heap.size w1 w3 := HB2.out.trans (hb3.mono (Nat.le_of_lt hsz2))
    have hb03 : Below w.heap.size w w3 := HB1.out.1.trans (hb13.mono hsz1)
    have f0 := (hb03.cell (p := ⟨p, 0, none⟩) hp).trans c0
    have h33 := HH.out.2.2 tg w3 hb03 (HB1.out.2.below hb13 (Nat.le_refl _))
    have HB := Lib.hid hb03
    clear hb3 hb13 hb03
    go_wp2_with fail
    refine h33.mono ?_
    rintro e w4 ⟨rfl, hb4⟩
    clear h33
    go_wp2_with fail
    go_ret2
    exact ⟨rfl, HB.out.trans (hb4.mono HB.out.size)⟩
  · have hsrc : (src.toList == [62]) = false := by simpa using hsrc
    go_enter Tryd.func23, Tryd.ntmps23
    go_wp2_with fail
    refine h29.mono ?_
    rintro e w1 ⟨tg, rfl, hb1, htg, hl1⟩
    have HB1 := Lib.hid (And.intro hb1 hl1)
    have hsz1 := hb1.size
    have d0 := (hb1.cell (p := ⟨p, 0, none⟩) hp).trans c0
    have d1 := (hb1.cell (p := ⟨p, 1, none⟩) hp).trans c1
    clear hb1 hl1 h29 htg
    go_wp2_with fail
    refine (made_any _ _ _ w1).mono ?_
    rintro e w2 ⟨rfl, hw2⟩
    have hb2 : Below w1.heap.size w1 w2 := by rw [hw2]; exact (Below.refl _ _).alloc (Nat.le_refl _) _
    have hcell : w2.cell? ⟨w1.heap.size, 0, none⟩ = some (.slice (some ⟨tg, 0, none⟩) toks.length 32) := by rw [hw2]; exact new_cell _ _ _
    have hsz2 : w1.heap.size < w2.heap.size := by rw [hw2]; simp
    have h30 := valid_any w1.heap.size tg 32 toks (by omega) htn w2 hsz2 hcell (HB1.out.2.below hb2 (Nat.le_refl _)) HH.out.1
    have HB2 := Lib.hid hb2
    clear hw2 hb2 hcell
    go_wp2_with fail
    refine h30.mono ?_
    rintro e w3 ⟨rfl, hb3⟩
    clear h30
    have HB3 := Lib.hid hb3
    have hb13 : Below w1.heap.size w1 w3 := HB2.out.trans (hb3.mono (Nat.le_of_lt hsz2))
    have hb03 : Below w.heap.size w w3 := HB1.out.1.trans (hb13.mono hsz1)
    have f0 := (hb03.cell (p := ⟨p, 0, none⟩) hp).trans c0
    have h32 := issub_any tg toks src w3 hs1 hS (by omega) (HB1.out.2.below hb13 (Nat.le_refl _)) HH.out.1 HH.out.2.1
    rw [HM.out] at h32
    have h33 := fun (w4 : World) (hb4 : Below w3.heap.size w3 w4) => HH.out.2.2 tg w4 (hb03.trans (hb4.mono hb03.size)) ((HB1.out.2.below hb13 (Nat.le_refl _)).below hb4 (Nat.le_refl _))
    have HB := Lib.hid hb03
    clear hb3 hb13 hb03
    go_wp2_with fail
    refine h32.mono ?_
    rintro e w4 ⟨rfl, hb4⟩
    clear h32
    have h33 := h33 w4 hb4
    have HB4 := Lib.hid hb4
    clear hb4
    go_wp2_with fail
    refine h33.mono ?_
    rintro e w5 ⟨rfl, hb5⟩
    clear h33
    go_wp2_with fail
    go_ret2
    exact ⟨rfl, HB.out.trans ((HB4.out.trans (hb5.mono HB4.out.size)).mono HB.out.size)⟩
end Go.Proofs.YtocfcajafkkhdaaDoor
end
/- Im -/
section
namespace Go.Proofs.YtocfcajafkkhdaaDoor
open Go.RowKit

theorem TrAt.below {w w' : World} {p : Nat} {src dest : ByteArray} {S D : List (List UInt8)} {ks : List Kn} (h : TrAt w p src dest S D ks) (hb : Below w.heap.size w w') : TrAt w' p src dest S D ks := by
  obtain ⟨A, cA, X, cX, T, cT, U, cU, V, cV, Y, cY, h1, h2, h3, h4, ⟨us, h5, h6, h7⟩, h8, h9⟩ := h.ex
  exact ⟨A, cA, X, cX, T, cT, U, cU, V, cV, Y, cY, (hb.block p (lt_of h1)).trans h1, h2.below hb (Nat.le_refl _), h3.below hb (Nat.le_refl _), h4.below hb (Nat.le_refl _), ⟨us, h5, h6.below hb (Nat.le_refl _), fun j hj => (h7 j hj).below hb⟩, h8.below hb (Nat.le_refl _), h9.below hb (Nat.le_refl _)⟩
theorem TrAt.cells {w : World} {p : Nat} {src dest : ByteArray} {S D : List (List UInt8)} {ks : List Kn} (h : TrAt w p src dest S D ks) : p < w.heap.size ∧ w.cell? ⟨p, 0, none⟩ = some (.string src) ∧ w.cell? ⟨p, 1, none⟩ = some (.string dest) := by
  obtain ⟨A, cA, X, cX, T, cT, U, cU, V, cV, Y, cY, h1, _⟩ := h.ex
  exact ⟨lt_of h1, by rw [Lib.cell_of_heap h1]; rfl, by rw [Lib.cell_of_heap h1]; rfl⟩
set_option maxRecDepth 100000 in
theorem new22 (src dest : ByteArray) (S D : List (List UInt8)) (ks : List Kn) (w : World) (h : Calls Tryd.prog 28 #[.string src, .string dest, .bool false] w (NtPost src dest S D ks w)) : Calls Tryd.prog 22 #[.string src, .string dest, .bool false] w (NtPost src dest S D ks w) := by
  go_enter Tryd.func22, Tryd.ntmps22
  go_wp2_with fail
  refine h.mono ?_
  rintro e w1 ⟨hb, p, rfl, hp, ht⟩
  clear h
  have H := Lib.hid (And.intro hb (And.intro hp ht))
  clear hb hp ht
  go_wp2_with fail
  go_ret2
  exact ⟨H.out.1, p, rfl, H.out.2.1, H.out.2.2⟩
set_option maxRecDepth 100000 in
theorem new37 (src dest : ByteArray) (S D : List (List UInt8)) (ks : List Kn) (w : World) (h : Calls Tryd.prog 28 #[.string src, .string dest, .bool false] w (NtPost src dest S D ks w)) : Calls Tryd.prog 37 #[.string src, .string dest] w (PtrPost w) := by
  go_enter Tryd.func37, Tryd.ntmps37
  go_wp2_with fail
  refine h.mono ?_
  rintro e w1 ⟨hb, p, rfl, hp, ht⟩
  clear h
  have H := Lib.hid (And.intro hb (And.intro hp ht))
  clear hb hp ht
  go_wp2_with fail
  go_ret2
  exact ⟨p, rfl, H.out.1⟩
def MapPost (l : List UInt8) (w : World) (e : Ending) (w' : World) : Prop := e = .returned (.tuple #[.string ⟨l.toArray⟩, .int .i64 0]) ∧ Below w.heap.size w w'
set_option maxRecDepth 100000 in
theorem map_of (src dest subj : ByteArray) (S D : List (List UInt8)) (ks : List Kn) (l : List UInt8) (w : World) (h : Calls Tryd.prog 28 #[.string src, .string dest, .bool false] w (NtPost src dest S D ks w))
    (hm : ∀ p w', TrAt w' p src dest S D (ks.map (Kn.at_ S)) → Calls Tryd.prog 23 #[.pointer (some ⟨p, 0, none⟩), .string subj] w' (MatchPost l w')) : Calls Tryd.prog 11 #[.string src, .string dest, .bool false, .string subj] w (MapPost l w) := by
  have h22 := new22 src dest S D ks w h
  go_enter Tryd.func11, Tryd.ntmps11
  go_wp2_with fail
  refine h22.mono ?_
  rintro e w1 ⟨hb, p, rfl, _, ht⟩
  have h23 := hm p w1 ht
  have HB := Lib.hid hb
  clear h22 h hm ht hb
  go_wp2_with fail
  refine h23.mono ?_
  rintro e w2 ⟨rfl, hb2⟩
  clear h23
  go_wp2_with fail
  go_ret2
  exact ⟨rfl, HB.out.trans (hb2.mono HB.out.size)⟩
/-- what is asked of a source and a destination -/
structure Mp (src dest : ByteArray) (S D : List (List UInt8)) (ks : List Kn) : Prop where
  s0 : 0 < src.size
  s1 : src.size ≤ 100000
  d0 : 0 < dest.size
  d1 : dest.size ≤ 100000
  d2 : dest.data.toList ≠ [62]
  hS : sp 46 src.data.toList = S
  hD : sp 46 dest.data.toList = D
  tS : Toks S
  tD : Toks D
  np : pwcs D = 0
  ff : fwc S = fwc D
  wild : 0 < pwcs S ∨ fwc S = true
  len : ks.length = D.length
  kc : ∀ j, j < ks.length → ∀ w, Calls Tryd.prog 39 #[sv (D.getD j [])] w (PhPost (kAt ks j) w)
  fit : ∀ k ∈ ks, k.fits (pwcs S)
  nS : S.length ≤ 32
  nD : D.length ≤ 1000
  lD : ∀ t ∈ D, t.length ≤ 1000
  sk : ∀ t ∈ S, Sk t
  pl : ∀ t ∈ D, t = [62] ∨ Pl t
theorem Mp.new {src dest : ByteArray} {S D : List (List UInt8)} {ks : List Kn} (h : Mp src dest S D ks) (w : World) : Calls Tryd.prog 28 #[.string src, .string dest, .bool false] w (NtPost src dest S D ks w) :=
  nt_wild src dest S D ks w h.s0 h.d0 h.s1 h.d1 h.hS h.hD h.tS h.tD h.np h.ff h.wild h.len h.kc h.fit
theorem Mp.valid {src dest : ByteArray} {S D : List (List UInt8)} {ks : List Kn} (h : Mp src dest S D ks) (w : World) : Calls Tryd.prog 12 #[.string src, .string dest] w (ValidPost w) :=
  validMapping_any src dest w (validate_plain src dest D w h.d1 h.hD h.tD h.pl h.lD (fun w' _ => new37 src dest S D ks w' (h.new w')))
theorem Mp.map {src dest : ByteArray} {S D : List (List UInt8)} {ks : List Kn} (h : Mp src dest S D ks) (subj : ByteArray) (toks : List (List UInt8)) (w : World) (hsub : subj.size ≤ 100000) (ht : sp 46 subj.data.toList = toks) (hn : toks.length ≤ 32)
    (hw : ∀ t ∈ toks, Wd t) (hl : ∀ t ∈ toks, t.length ≤ 1000) (hm : mtc toks S = true) (o : Nat → List UInt8) (ho : ∀ j, j < ks.length → D.getD j [] ≠ [62] → OutOk D toks (ks.map (Kn.at_ S)) j (o j))
    (hb : ∀ j, j < ks.length → D.getD j [] = [62] → (kAt ks j).ty = 0) :
    Calls Tryd.prog 11 #[.string src, .string dest, .bool false, .string subj] w (MapPost (finB D toks o ks.length (S.length - 1)) w) := by
  refine map_of src dest subj S D ks _ w (h.new w) fun p w' hT => ?_
  obtain ⟨hp, c0, c1⟩ := hT.cells
  have hSl : 0 < S.length := by rw [← h.hS]; exact List.length_pos_iff.2 (sp_ne 46 _)
  have hDl : 0 < D.length := by rw [← h.hD]; exact List.length_pos_iff.2 (sp_ne 46 _)
  refine match_hit p src dest subj toks _ w' hp c0 c1 h.s0 h.s1 h.d0 h.d2 hsub ht hn (by rw [h.hS]; exact h.nS) hw (by rw [h.hS]; exact h.sk) (by rw [h.hS]; exact hm) fun tg w2 hb2 hl2 => ?_
  have hT2 := hT.below hb2
  have := tr_any p tg src dest S D (ks.map (Kn.at_ S)) toks w2 hT2 (Nat.lt_of_lt_of_le hp hb2.size) (by rw [List.length_map]; exact h.len) (by rw [List.length_map, h.len]; exact hDl) (by rw [List.length_map, h.len]; exact h.nD)
    h.tD h.lD hl2 hl (by omega) o (fun j hj => ho j (by simpa using hj)) (fun j hj e => ?_) hSl (by have := h.nS; omega)
  · rw [List.length_map] at this
    exact this
  · rw [List.length_map] at hj
    have h5 := hb j hj e
    have e2 : kAt (ks.map (Kn.at_ S)) j = Kn.at_ S (kAt ks j) := by simp [kAt, List.getD, hj]
    rw [e2]
    unfold Kn.at_
    rw [if_pos h5]
    rfl
end Go.Proofs.YtocfcajafkkhdaaDoor
end
/- Mn -/
section
namespace Go.Proofs.YtocfcajafkkhdaaDoor
open Go.RowKit

/-- an error lies in a package's variable -/
def ErrAt (g : Nat) (w : World) : Prop := ∃ te ve, w.cell? ⟨g, 0, none⟩ = some (.iface te ve)
/-- the errors that are returned -/
structure Sn (w : World) : Prop where
  s1 : ErrAt 1 w
  s4 : ErrAt 4 w
  s6 : ErrAt 6 w
theorem lt_of_cell {w : World} {a : Addr} {v : Value} (h : w.cell? a = some v) : a.block < w.heap.size := by
  cases hb : w.heap[a.block]? with
  | none => simp [World.cell?, hb] at h
  | some o => exact lt_of hb
theorem ErrAt.below {g : Nat} {w w' : World} (h : ErrAt g w) (hb : Below w.heap.size w w') : ErrAt g w' := by
  obtain ⟨te, ve, h⟩ := h
  exact ⟨te, ve, (hb.cell (lt_of_cell h)).trans h⟩
theorem Sn.below {w w' : World} (h : Sn w) (hb : Below w.heap.size w w') : Sn w' := ⟨h.s1.below hb, h.s4.below hb, h.s6.below hb⟩
def MissPost (w : World) (e : Ending) (w' : World) : Prop := ∃ s te ve, e = .returned (.tuple #[.string s, .iface te ve]) ∧ Below w.heap.size w w'
set_option maxHeartbeats 4000000 in
set_option maxRecDepth 100000 in
theorem match_miss (p : Nat) (src dest subj : ByteArray) (toks : List (List UInt8)) (w : World) (hp : p < w.heap.size) (c0 : w.cell? ⟨p, 0, none⟩ = some (.string src)) (c1 : w.cell? ⟨p, 1, none⟩ = some (.string dest))
    (hs0 : 0 < src.size) (hs1 : src.size ≤ 100000) (hd0 : 0 < dest.size) (hd1 : dest.data.toList ≠ [62]) (hsub : subj.size ≤ 100000) (ht : sp 46 subj.data.toList = toks) (hn : toks.length ≤ 32) (hS : (sp 46 src.data.toList).length ≤ 32)
    (hw : ∀ t ∈ toks, Wd t) (hk : ∀ t ∈ sp 46 src.data.toList, Sk t) (hm : mtc toks (sp 46 src.data.toList) = false) (hs62 : src.data.toList ≠ [62]) (sn : Sn w) :
    Calls Tryd.prog 23 #[.pointer (some ⟨p, 0, none⟩), .string subj] w (MissPost w) := by
  have h29 := tok_any subj w hsub (by rw [ht]; exact hn)
  unfold TokPost at h29
  rw [ht] at h29
  have htn : 0 < toks.length := by rw [← ht]; exact List.length_pos_iff.2 (sp_ne 46 _)
  have ne0 : ∀ (s : ByteArray), 0 < s.size → s.toList.isEmpty = false := fun s hs => by
    rw [ByteArray.toList_eq, List.isEmpty_eq_false_iff]
    intro e
    have := K.bsize s
    rw [e] at this
    simp at this
    omega
  have e0 := ne0 src hs0
  have e1 := ne0 dest hd0
  have e2 : (dest.toList == [62]) = false := by rw [ByteArray.toList_eq, beq_eq_false_iff_ne]; exact hd1
  have HH := Lib.hid (And.intro hw hk)
  have HM := Lib.hid hm
  have HS62 := Lib.hid hs62
  clear ht hd1 ne0 hw hk hm hs62
  have hsrc : (src.toList == [62]) = false := by rw [ByteArray.toList_eq, beq_eq_false_iff_ne]; exact HS62.out
  go_enter Tryd.func23, Tryd.ntmps23
  go_wp2_with fail
  refine h29.mono ?_
  rintro e w1 ⟨tg, rfl, hb1, htg, hl1⟩
  have HB1 := Lib.hid (And.intro hb1 hl1)
  have hsz1 := hb1.size
  have d0 := (hb1.cell (p := ⟨p, 0, none⟩) hp).trans c0
  have d1 := (hb1.cell (p := ⟨p, 1, none⟩) hp).trans c1
  clear hb1 hl1 h29 htg
  go_wp2_with fail
  refine (made_any _ _ _ w1).mono ?_
  rintro e w2 ⟨rfl, hw2⟩
  have hb2 : Below w1.heap.size w1 w2 := by rw [hw2]; exact (Below.refl _ _).alloc (Nat.le_refl _) _
  have hcell : w2.cell? ⟨w1.heap.size, 0, none⟩ = some (.slice (some ⟨tg, 0, none⟩) toks.length 32) := by rw [hw2]; exact new_cell _ _ _
  have hsz2 : w1.heap.size < w2.heap.size := by rw [hw2]; simp
  have h30 := valid_any w1.heap.size tg 32 toks (by omega) htn w2 hsz2 hcell (HB1.out.2.below hb2 (Nat.le_refl _)) HH.out.1
  have HB2 := Lib.hid hb2
  clear hw2 hb2 hcell
  go_wp2_with fail
  refine h30.mono ?_
  rintro e w3 ⟨rfl, hb3⟩
  clear h30
  have HB3 := Lib.hid hb3
  have hb13 : Below w1.heap.size w1 w3 := HB2.out.trans (hb3.mono (Nat.le_of_lt hsz2))
  have hb03 : Below w.heap.size w w3 := HB1.out.1.trans (hb13.mono hsz1)
  have f0 := (hb03.cell (p := ⟨p, 0, none⟩) hp).trans c0
  have h32 := issub_any tg toks src w3 hs1 hS (by omega) (HB1.out.2.below hb13 (Nat.le_refl _)) HH.out.1 HH.out.2
  rw [HM.out] at h32
  have HB := Lib.hid hb03
  clear hb3 hb13 hb03
  go_wp2_with fail
  refine h32.mono ?_
  rintro e w4 ⟨rfl, hb4⟩
  clear h32
  have hb04 : Below w.heap.size w w4 := HB.out.trans (hb4.mono HB.out.size)
  obtain ⟨te, ve, hg⟩ := (sn.below hb04).s1
  have HB4 := Lib.hid hb04
  clear hb4 hb04
  go_wp2_with fail
  go_quiet (fail)
  go_wp2_with fail
  go_ret2
  exact ⟨_, _, _, rfl, HB4.out.trans ⟨rfl, rfl, rfl, Nat.le_refl _, fun _ _ => rfl⟩⟩
end Go.Proofs.YtocfcajafkkhdaaDoor
end
/- Aw -/
section
namespace Go.Proofs.YtocfcajafkkhdaaDoor
open Go.RowKit

def aS : List (List UInt8) := [[97], [42]]
def aD : List (List UInt8) := [[98], [36, 49]]
def aK : List Kn := [Kn.no, Kn.wild 1]
def aT : List (List UInt8) := [[97], [99]]
theorem toks_of {ts : List (List UInt8)} (h1 : ∀ t ∈ ts, t ≠ []) (h2 : [62] ∉ ts) : Toks ts := ⟨h1, fun a b e => absurd (by rw [e]; simp) h2⟩
theorem wd_of {c : UInt8} {r : List UInt8} (h1 : c ≠ 36) (h2 : c ≠ 42) (h3 : c ≠ 62) (h4 : c ≠ 123) : Wd (c :: r) := ⟨c, r, rfl, h1, h2, h3, h4⟩
theorem awakeMp : Mp ⟨#[97, 46, 42]⟩ ⟨#[98, 46, 36, 49]⟩ aS aD aK where
  s0 := by decide
  s1 := by decide
  d0 := by decide
  d1 := by decide
  d2 := by decide
  hS := by decide
  hD := by decide
  tS := toks_of (by decide) (by decide)
  tD := toks_of (by decide) (by decide)
  np := by decide
  ff := by decide
  wild := .inl (by decide)
  len := rfl
  kc := by
    intro j hj w
    match j, hj with
    | 0, _ => exact ph_word ⟨#[98]⟩ w (by decide) (.inl rfl)
    | 1, _ =>
      have h := ph_dollar ⟨#[36, 49]⟩ w (by decide) (by decide) rfl (by
        show Digits ((⟨#[36, 49]⟩ : ByteArray).extract 1 2).data.toList
        rw [show ((⟨#[36, 49]⟩ : ByteArray).extract 1 2).data.toList = [49] from rfl]
        exact ⟨by simp, by decide⟩)
      have e : dec ((⟨#[36, 49]⟩ : ByteArray).extract 1 (⟨#[36, 49]⟩ : ByteArray).size).data.toList = 1 := by
        rw [show ((⟨#[36, 49]⟩ : ByteArray).extract 1 (⟨#[36, 49]⟩ : ByteArray).size).data.toList = [49] from rfl]
        rfl
      rw [e] at h
      exact h
  fit := by
    intro k hk
    simp only [aK, List.mem_cons, List.not_mem_nil, or_false] at hk
    rcases hk with rfl | rfl
    · exact ⟨.inl rfl, by decide⟩
    · exact ⟨.inr ⟨by decide, by decide⟩, by decide⟩
  nS := by decide
  nD := by decide
  lD := by decide
  sk := by
    intro t ht
    simp only [aS, List.mem_cons, List.not_mem_nil, or_false] at ht
    rcases ht with rfl | rfl
    · exact .inr (.inr (wd_of (by decide) (by decide) (by decide) (by decide)))
    · exact .inl rfl
  pl := by
    intro t ht
    simp only [aD, List.mem_cons, List.not_mem_nil, or_false] at ht
    rcases ht with rfl | rfl
    · exact .inr ⟨⟨98, [], rfl, by decide, by decide⟩, by decide⟩
    · exact .inr ⟨⟨36, [49], rfl, by decide, by decide⟩, by decide⟩
theorem awakeMap_map (w : World) : Calls Tryd.prog 11 #[.string ⟨#[97, 46, 42]⟩, .string ⟨#[98, 46, 36, 49]⟩, .bool false, .string ⟨#[97, 46, 99]⟩] w (MapPost [98, 46, 99] w) := by
  have h := awakeMp.map ⟨#[97, 46, 99]⟩ aT w (by decide) (by decide) (by decide) (by
      intro t ht
      simp only [aT, List.mem_cons, List.not_mem_nil, or_false] at ht
      rcases ht with rfl | rfl
      · exact wd_of (by decide) (by decide) (by decide) (by decide)
      · exact wd_of (by decide) (by decide) (by decide) (by decide)) (by decide) (by decide) (fun j => if j = 0 then [98] else [99]) (by
      intro j hj _
      match j, hj with
      | 0, _ => exact .inl ⟨rfl, rfl⟩
      | 1, _ => exact .inr ⟨rfl, 1, rfl, by decide, rfl⟩) (by
      intro j hj e
      match j, hj with
      | 0, _ => exact absurd e (by decide)
      | 1, _ => exact absurd e (by decide))
  exact h
def YesPost (w : World) (e : Ending) (w' : World) : Prop := e = .returned (.bool true) ∧ Below w.heap.size w w'
set_option maxRecDepth 100000 in
theorem awake_any (w : World) : Calls Tryd.prog 9 #[] w (YesPost w) := by
  have h11 := awakeMap_map w
  have h12 := fun w => awakeMp.valid w
  go_enter Tryd.func9, Tryd.ntmps9
  go_wp2_with fail
  refine h11.mono ?_
  rintro e w1 ⟨rfl, hb1⟩
  clear h11
  go_wp2_with fail
  refine (h12 w1).mono ?_
  rintro e w2 ⟨rfl, hb2⟩
  clear h12
  go_wp2_with fail
  go_ret
  exact ⟨rfl, hb1.trans (hb2.mono hb1.size)⟩
end Go.Proofs.YtocfcajafkkhdaaDoor
end
