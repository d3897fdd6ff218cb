/-
  impl.Map and impl.ValidMapping where the source has wildcards and the destination's tokens are words and wildcards.
-/
import Derived.Test.YtocfcajafkkhdaaDoorTr
import Derived.Test.YtocfcajafkkhdaaDoorMt
import Derived.Test.YtocfcajafkkhdaaDoorVm
namespace Go.Proofs.YtocfcajafkkhdaaDoor
open Go.RowKit

theorem TrAt.below {w w' : World} {p : Nat} {src dest : ByteArray} {S D : List (List UInt8)} {ks : List Kn} (h : TrAt w p src dest S D ks) (hb : Below w.heap.size w w') : TrAt w' p src dest S D ks := by
  obtain ⟨A, cA, X, cX, T, cT, U, cU, V, cV, Y, cY, h1, h2, h3, h4, ⟨us, h5, h6, h7⟩, h8, h9⟩ := h.ex
  exact ⟨A, cA, X, cX, T, cT, U, cU, V, cV, Y, cY, (hb.block p (lt_of h1)).trans h1, h2.below hb (Nat.le_refl _), h3.below hb (Nat.le_refl _), h4.below hb (Nat.le_refl _), ⟨us, h5, h6.below hb (Nat.le_refl _), fun j hj => (h7 j hj).below hb⟩, h8.below hb (Nat.le_refl _), h9.below hb (Nat.le_refl _)⟩
theorem TrAt.cells {w : World} {p : Nat} {src dest : ByteArray} {S D : List (List UInt8)} {ks : List Kn} (h : TrAt w p src dest S D ks) : p < w.heap.size ∧ w.cell? ⟨p, 0, none⟩ = some (.string src) ∧ w.cell? ⟨p, 1, none⟩ = some (.string dest) := by
  obtain ⟨A, cA, X, cX, T, cT, U, cU, V, cV, Y, cY, h1, _⟩ := h.ex
  exact ⟨lt_of h1, by rw [Lib.cell_of_heap h1]; rfl, by rw [Lib.cell_of_heap h1]; rfl⟩
set_option maxRecDepth 100000 in
theorem new22 (src dest : ByteArray) (S D : List (List UInt8)) (ks : List Kn) (w : World) (h : Calls Tryd.prog 28 #[.string src, .string dest, .bool false] w (NtPost src dest S D ks w)) : Calls Tryd.prog 22 #[.string src, .string dest, .bool false] w (NtPost src dest S D ks w) := by
  go_enter Tryd.func22, Tryd.ntmps22
  go_wp2_with fail
  refine h.mono ?_
  rintro e w1 ⟨hb, p, rfl, hp, ht⟩
  clear h
  have H := Lib.hid (And.intro hb (And.intro hp ht))
  clear hb hp ht
  go_wp2_with fail
  go_ret2
  exact ⟨H.out.1, p, rfl, H.out.2.1, H.out.2.2⟩
set_option maxRecDepth 100000 in
theorem new37 (src dest : ByteArray) (S D : List (List UInt8)) (ks : List Kn) (w : World) (h : Calls Tryd.prog 28 #[.string src, .string dest, .bool false] w (NtPost src dest S D ks w)) : Calls Tryd.prog 37 #[.string src, .string dest] w (PtrPost w) := by
  go_enter Tryd.func37, Tryd.ntmps37
  go_wp2_with fail
  refine h.mono ?_
  rintro e w1 ⟨hb, p, rfl, hp, ht⟩
  clear h
  have H := Lib.hid (And.intro hb (And.intro hp ht))
  clear hb hp ht
  go_wp2_with fail
  go_ret2
  exact ⟨p, rfl, H.out.1⟩
def MapPost (l : List UInt8) (w : World) (e : Ending) (w' : World) : Prop := e = .returned (.tuple #[.string ⟨l.toArray⟩, .int .i64 0]) ∧ Below w.heap.size w w'
set_option maxRecDepth 100000 in
theorem map_of (src dest subj : ByteArray) (S D : List (List UInt8)) (ks : List Kn) (l : List UInt8) (w : World) (h : Calls Tryd.prog 28 #[.string src, .string dest, .bool false] w (NtPost src dest S D ks w))
    (hm : ∀ p w', TrAt w' p src dest S D (ks.map (Kn.at_ S)) → Calls Tryd.prog 23 #[.pointer (some ⟨p, 0, none⟩), .string subj] w' (MatchPost l w')) : Calls Tryd.prog 11 #[.string src, .string dest, .bool false, .string subj] w (MapPost l w) := by
  have h22 := new22 src dest S D ks w h
  go_enter Tryd.func11, Tryd.ntmps11
  go_wp2_with fail
  refine h22.mono ?_
  rintro e w1 ⟨hb, p, rfl, _, ht⟩
  have h23 := hm p w1 ht
  have HB := Lib.hid hb
  clear h22 h hm ht hb
  go_wp2_with fail
  refine h23.mono ?_
  rintro e w2 ⟨rfl, hb2⟩
  clear h23
  go_wp2_with fail
  go_ret2
  exact ⟨rfl, HB.out.trans (hb2.mono HB.out.size)⟩
/-- what is asked of a source and a destination -/
structure Mp (src dest : ByteArray) (S D : List (List UInt8)) (ks : List Kn) : Prop where
  s0 : 0 < src.size
  s1 : src.size ≤ 100000
  d0 : 0 < dest.size
  d1 : dest.size ≤ 100000
  d2 : dest.data.toList ≠ [62]
  hS : sp 46 src.data.toList = S
  hD : sp 46 dest.data.toList = D
  tS : Toks S
  tD : Toks D
  np : pwcs D = 0
  ff : fwc S = fwc D
  wild : 0 < pwcs S ∨ fwc S = true
  len : ks.length = D.length
  kc : ∀ j, j < ks.length → ∀ w, Calls Tryd.prog 39 #[sv (D.getD j [])] w (PhPost (kAt ks j) w)
  fit : ∀ k ∈ ks, k.fits (pwcs S)
  nS : S.length ≤ 32
  nD : D.length ≤ 1000
  lD : ∀ t ∈ D, t.length ≤ 1000
  sk : ∀ t ∈ S, Sk t
  pl : ∀ t ∈ D, t = [62] ∨ Pl t
theorem Mp.new {src dest : ByteArray} {S D : List (List UInt8)} {ks : List Kn} (h : Mp src dest S D ks) (w : World) : Calls Tryd.prog 28 #[.string src, .string dest, .bool false] w (NtPost src dest S D ks w) :=
  nt_wild src dest S D ks w h.s0 h.d0 h.s1 h.d1 h.hS h.hD h.tS h.tD h.np h.ff h.wild h.len h.kc h.fit
theorem Mp.valid {src dest : ByteArray} {S D : List (List UInt8)} {ks : List Kn} (h : Mp src dest S D ks) (w : World) : Calls Tryd.prog 12 #[.string src, .string dest] w (ValidPost w) :=
  validMapping_any src dest w (validate_plain src dest D w h.d1 h.hD h.tD h.pl h.lD (fun w' _ => new37 src dest S D ks w' (h.new w')))
theorem Mp.map {src dest : ByteArray} {S D : List (List UInt8)} {ks : List Kn} (h : Mp src dest S D ks) (subj : ByteArray) (toks : List (List UInt8)) (w : World) (hsub : subj.size ≤ 100000) (ht : sp 46 subj.data.toList = toks) (hn : toks.length ≤ 32)
    (hw : ∀ t ∈ toks, Wd t) (hl : ∀ t ∈ toks, t.length ≤ 1000) (hm : mtc toks S = true) (o : Nat → List UInt8) (ho : ∀ j, j < ks.length → D.getD j [] ≠ [62] → OutOk D toks (ks.map (Kn.at_ S)) j (o j))
    (hb : ∀ j, j < ks.length → D.getD j [] = [62] → (kAt ks j).ty = 0) :
    Calls Tryd.prog 11 #[.string src, .string dest, .bool false, .string subj] w (MapPost (finB D toks o ks.length (S.length - 1)) w) := by
  refine map_of src dest subj S D ks _ w (h.new w) fun p w' hT => ?_
  obtain ⟨hp, c0, c1⟩ := hT.cells
  have hSl : 0 < S.length := by rw [← h.hS]; exact List.length_pos_iff.2 (sp_ne 46 _)
  have hDl : 0 < D.length := by rw [← h.hD]; exact List.length_pos_iff.2 (sp_ne 46 _)
  refine match_hit p src dest subj toks _ w' hp c0 c1 h.s0 h.s1 h.d0 h.d2 hsub ht hn (by rw [h.hS]; exact h.nS) hw (by rw [h.hS]; exact h.sk) (by rw [h.hS]; exact hm) fun tg w2 hb2 hl2 => ?_
  have hT2 := hT.below hb2
  have := tr_any p tg src dest S D (ks.map (Kn.at_ S)) toks w2 hT2 (Nat.lt_of_lt_of_le hp hb2.size) (by rw [List.length_map]; exact h.len) (by rw [List.length_map, h.len]; exact hDl) (by rw [List.length_map, h.len]; exact h.nD)
    h.tD h.lD hl2 hl (by omega) o (fun j hj => ho j (by simpa using hj)) (fun j hj e => ?_) hSl (by have := h.nS; omega)
  · rw [List.length_map] at this
    exact this
  · rw [List.length_map] at hj
    have h5 := hb j hj e
    have e2 : kAt (ks.map (Kn.at_ S)) j = Kn.at_ S (kAt ks j) := by simp [kAt, List.getD, hj]
    rw [e2]
    unfold Kn.at_
    rw [if_pos h5]
    rfl
end Go.Proofs.YtocfcajafkkhdaaDoor
