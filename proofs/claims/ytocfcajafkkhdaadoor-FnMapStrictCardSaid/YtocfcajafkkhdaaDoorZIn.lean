/-
  impl.Map and impl.ValidMapping at all functions: a subject that fits, one that does not, and a strict mapping that is refused.
-/
import Derived.Test.YtocfcajafkkhdaaDoorZTg
import Derived.Test.YtocfcajafkkhdaaDoorZVn
import Derived.Test.YtocfcajafkkhdaaDoorZG16
import Derived.Test.YtocfcajafkkhdaaDoorZG4
import Derived.Test.YtocfcajafkkhdaaDoorZSt
namespace Go.Proofs.YtocfcajafkkhdaaDoor
open Go.RowKit

/-- a mapping that is not made, or a subject that is not mapped -/
def KindPost (k : Int) (w : World) (e : Ending) (w' : World) : Prop := e = .returned (.tuple #[.string ⟨#[]⟩, .int .i64 k]) ∧ Below w.heap.size w w'
set_option maxRecDepth 100000 in
theorem map_miss_of (src dest subj : ByteArray) (S D : List (List UInt8)) (ks : List Kn) (w : World) (h : Calls Tryd.prog 28 #[.string src, .string dest, .bool false] w (NtPost src dest S D ks w))
    (hm : ∀ p w', Below w.heap.size w w' → TrAt w' p src dest S D (ks.map (Kn.at_ S)) → Calls Tryd.prog 23 #[.pointer (some ⟨p, 0, none⟩), .string subj] w' (MissPost w')) : Calls Tryd.prog 11 #[.string src, .string dest, .bool false, .string subj] w (KindPost 2 w) := by
  have h22 := new22 src dest S D ks w h
  go_enter Tryd.func11, Tryd.ntmps11
  go_wp2_with fail
  refine h22.mono ?_
  rintro e w1 ⟨hb, p, rfl, _, ht⟩
  have h23 := hm p w1 hb ht
  have HB := Lib.hid hb
  clear h22 h hm ht hb
  go_wp2_with fail
  refine h23.mono ?_
  rintro e w2 ⟨s, te, ve, rfl, hb2⟩
  clear h23
  go_wp2_with fail
  go_ret2
  exact ⟨rfl, HB.out.trans (hb2.mono HB.out.size)⟩
set_option maxRecDepth 100000 in
theorem map_ref_of (src dest subj : ByteArray) (w : World) (h : Calls Tryd.prog 28 #[.string src, .string dest, .bool true] w (RefPost w)) : Calls Tryd.prog 11 #[.string src, .string dest, .bool true, .string subj] w (KindPost 1 w) := by
  have h22 : Calls Tryd.prog 22 #[.string src, .string dest, .bool true] w (RefPost w) := by
    go_enter Tryd.func22, Tryd.ntmps22
    go_wp2_with fail
    refine h.mono ?_
    rintro e w1 ⟨te, ve, rfl, hb⟩
    clear h
    go_wp2_with fail
    go_ret2
    exact ⟨te, ve, rfl, hb⟩
  clear h
  go_enter Tryd.func11, Tryd.ntmps11
  go_wp2_with fail
  refine h22.mono ?_
  rintro e w1 ⟨te, ve, rfl, hb⟩
  clear h22
  go_wp2_with fail
  go_ret2
  exact ⟨rfl, hb⟩
/-- what is asked of a source and a destination -/
structure Mx (src dest : ByteArray) (S D : List (List UInt8)) (ks : List Kn) : Prop where
  s0 : 0 < src.size
  s1 : src.size ≤ 100000
  d0 : 0 < dest.size
  d1 : dest.size ≤ 100000
  d2 : dest.data.toList ≠ [62]
  hS : sp 46 src.data.toList = S
  hD : sp 46 dest.data.toList = D
  tS : Toks S
  tD : Toks D
  np : pwcs D = 0
  ff : fwc S = fwc D
  len : ks.length = D.length
  kc : ∀ j, j < ks.length → ∀ w, Calls Tryd.prog 39 #[sv (D.getD j [])] w (PhPost (kAt ks j) w)
  fit : ∀ k ∈ ks, k.fits (pwcs S)
  wild : (0 < pwcs S ∨ fwc S = true) ∨ (pwcs S = 0 ∧ fwc S = false ∧ ks = List.replicate D.length Kn.no)
  nS : S.length ≤ 32
  nD : D.length ≤ 1000
  lD : ∀ t ∈ D, t.length ≤ 1000
  sk : ∀ t ∈ S, Sk t
  pl : ∀ t ∈ D, t = [62] ∨ Pl t ∨ MuT t
theorem Mx.new {src dest : ByteArray} {S D : List (List UInt8)} {ks : List Kn} (h : Mx src dest S D ks) (w : World) : Calls Tryd.prog 28 #[.string src, .string dest, .bool false] w (NtPost src dest S D ks w) := by
  rcases h.wild with hw | ⟨h1, h2, h3⟩
  · exact nt_wild src dest S D ks w h.s0 h.d0 h.s1 h.d1 h.hS h.hD h.tS h.tD h.np h.ff hw h.len h.kc h.fit
  · have hk := h.kc
    rw [h3]
    refine nt_plain src dest S D false w h.s0 h.d0 h.s1 h.d1 h.hS h.hD h.tS h.tD h.np (by rw [← h.ff]; exact h2) h1 h2 fun j hj w => ?_
    have := hk j (by rw [h.len]; exact hj) w
    rw [h3, kAt_rep] at this
    exact this
theorem Mx.valid {src dest : ByteArray} {S D : List (List UInt8)} {ks : List Kn} (h : Mx src dest S D ks) (w : World) : Calls Tryd.prog 12 #[.string src, .string dest] w (ValidPost w) :=
  validMapping_any src dest w (validate_all src dest D w h.d1 h.hD h.tD h.pl h.lD (fun w' _ => new37 src dest S D ks w' (h.new w')))
theorem Mx.map {src dest : ByteArray} {S D : List (List UInt8)} {ks : List Kn} (h : Mx src dest S D ks) (subj : ByteArray) (toks : List (List UInt8)) (w : World) (hsub : subj.size ≤ 100000) (ht : sp 46 subj.data.toList = toks) (hn : toks.length ≤ 32)
    (hw : ∀ t ∈ toks, Wd t) (hl : ∀ t ∈ toks, t.length ≤ 1000) (hm : mtc toks S = true) (o : Nat → List UInt8) (ho : ∀ j, j < ks.length → D.getD j [] ≠ [62] → Out2 D toks (ks.map (Kn.at_ S)) j (o j))
    (hb : ∀ j, j < ks.length → D.getD j [] = [62] → (kAt ks j).ty = 0) :
    Calls Tryd.prog 11 #[.string src, .string dest, .bool false, .string subj] w (MapPost (finB D toks o ks.length (S.length - 1)) w) := by
  refine map_of src dest subj S D ks _ w (h.new w) fun p w' hT => ?_
  obtain ⟨hp, c0, c1⟩ := hT.cells
  have hSl : 0 < S.length := by rw [← h.hS]; exact List.length_pos_iff.2 (sp_ne 46 _)
  have hDl : 0 < D.length := by rw [← h.hD]; exact List.length_pos_iff.2 (sp_ne 46 _)
  refine match_hit p src dest subj toks _ w' hp c0 c1 h.s0 h.s1 h.d0 h.d2 hsub ht hn (by rw [h.hS]; exact h.nS) hw (by rw [h.hS]; exact h.sk) (by rw [h.hS]; exact hm) fun tg w2 hb2 hl2 => ?_
  have hT2 := hT.below hb2
  have hne : ∀ t ∈ toks, t ≠ [] := fun t htm => by
    obtain ⟨c, r, e, _⟩ := hw t htm
    rw [e]; simp
  have := tr_all p tg src dest S D (ks.map (Kn.at_ S)) toks w2 hT2 (Nat.lt_of_lt_of_le hp hb2.size) (by rw [List.length_map]; exact h.len) (by rw [List.length_map, h.len]; exact hDl) (by rw [List.length_map, h.len]; exact h.nD)
    h.tD h.lD hl2 hl hne (by omega) o (fun j hj => ho j (by simpa using hj)) (fun j hj e => ?_) hSl (by have := h.nS; omega)
  · rw [List.length_map] at this
    exact this
  · rw [List.length_map] at hj
    have h5 := hb j hj e
    have e2 : kAt (ks.map (Kn.at_ S)) j = Kn.at_ S (kAt ks j) := by simp [kAt, List.getD, hj]
    rw [e2]
    unfold Kn.at_
    rw [if_pos h5]
    rfl
theorem Mx.miss {src dest : ByteArray} {S D : List (List UInt8)} {ks : List Kn} (h : Mx src dest S D ks) (subj : ByteArray) (toks : List (List UInt8)) (w : World) (hsub : subj.size ≤ 100000) (ht : sp 46 subj.data.toList = toks) (hn : toks.length ≤ 32)
    (hw : ∀ t ∈ toks, Wd t) (hm : mtc toks S = false) (hs62 : src.data.toList ≠ [62]) (sn : Sn w) :
    Calls Tryd.prog 11 #[.string src, .string dest, .bool false, .string subj] w (KindPost 2 w) := by
  refine map_miss_of src dest subj S D ks w (h.new w) fun p w' hb hT => ?_
  obtain ⟨hp, c0, c1⟩ := hT.cells
  exact match_miss p src dest subj toks w' hp c0 c1 h.s0 h.s1 h.d0 h.d2 hsub ht hn (by rw [h.hS]; exact h.nS) hw (by rw [h.hS]; exact h.sk) (by rw [h.hS]; exact hm) hs62 (sn.below hb)
theorem Mx.strict {src dest : ByteArray} {S D : List (List UInt8)} {ks : List Kn} (h : Mx src dest S D ks) (subj : ByteArray) (w : World) (hw : 0 < pwcs S ∨ fwc S = true) (hlo : (∃ j, j < ks.length ∧ (kAt ks j).ty ≠ 0 ∧ (kAt ks j).ty ≠ 3) ∨ nph ks < pwcs S) (sn : Sn w) :
    Calls Tryd.prog 11 #[.string src, .string dest, .bool true, .string subj] w (KindPost 1 w) :=
  map_ref_of src dest subj w (nt_strict src dest S D ks w h.s0 h.d0 h.s1 h.d1 h.hS h.hD h.tS h.tD h.np h.ff hw h.len h.kc h.fit hlo sn)
end Go.Proofs.YtocfcajafkkhdaaDoor
