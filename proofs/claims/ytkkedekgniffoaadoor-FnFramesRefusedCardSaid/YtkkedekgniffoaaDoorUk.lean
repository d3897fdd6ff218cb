/-
  FramesUnmasked: a frame in bytes without its mask.
-/
import Derived.Test.YtkkedekgniffoaaDoorBy
namespace Go.Proofs.YtkkedekgniffoaaDoor
open Go.RowKit
theorem own_set {W : World} {base g n cp j : Nat} {xs : List Value} {u : Value} (h : W.ownsRow base 5 1 (.slice (some ⟨g, 0, none⟩) n cp) n xs) : (W.setCell ⟨g, j, none⟩ u).ownsRow base 5 1 (.slice (some ⟨g, 0, none⟩) n cp) n (xs.set j u) := by
  obtain ⟨h1, h2⟩ := h
  rcases h2 with ⟨h3, _⟩ | ⟨g', cap, cur, h3, hb, hg, h4, h5, hs, ht⟩
  · cases h3
  · cases h3
    refine ⟨by simpa using h1, Or.inr ⟨g, cp, cur.setIfInBounds j u, rfl, hb, K.heap_setCell_at hg u, h4, h5, by simpa using hs, ?_⟩⟩
    rw [← ht]
    simp [List.take_set]
theorem and127 (c : UInt8) : bits .and .u8 (c.toNat : Int) 127 = ((UInt8.ofNat (c.toNat % 128)).toNat : Int) := by
  have : ∀ n : _root_.Fin 256, bits .and .u8 ((n.val : Nat) : Int) 127 = ((UInt8.ofNat (n.val % 128)).toNat : Int) := by decide +kernel
  exact this ⟨c.toNat, c.toNat_lt⟩
theorem written_parts (f : Fa) (_hs : f.data.size ≤ 400) : ∃ p b0 b1 l, Fr.written f.f0 f.mask = b0 :: b1 :: l ∧ (Fr.written f.f0 f.mask).length = p + 4 + f.data.size ∧ 2 ≤ p ∧ p ≤ 4 := by
  unfold Fr.written Fr.lenOf Fa.f0
  simp only [K.bsize]
  by_cases h : f.data.size < 126
  · rw [if_pos h]
    exact ⟨2, _, _, _, rfl, by simp [Fr.keyOf, Fr.unm_length]; omega, by omega, by omega⟩
  · rw [if_neg h]
    exact ⟨4, _, _, _, rfl, by simp [Fr.keyOf, Fr.unm_length]; omega, by omega, by omega⟩
theorem map_bv_cells {W : World} {S o : Nat} {L : List UInt8} (h : ByteRow W S L) (m : List UInt8) (hm : ∀ j c, m[j]? = some c → L[o + j]? = some c) : ∀ j u, (m.map bv)[j]? = some u → W.cell? ((⟨S, o, none⟩ : Addr).add j) = some u := by
  intro j u hj
  rw [List.getElem?_map] at hj
  cases hc : m[j]? with
  | none => rw [hc] at hj; cases hj
  | some c =>
    rw [hc] at hj
    cases hj
    rw [K.addr_add _ rfl]
    exact h.cell (hm j c hc)
theorem set_bv (L : List UInt8) (c : UInt8) : (L.map bv).set 1 (.int .u8 (c.toNat : Int)) = (L.set 1 c).map bv := by
  rw [List.map_set]; rfl
theorem take_two {L : List UInt8} {b0 b1 c1 : UInt8} {l : List UInt8} {p : Nat} (h : L = b0 :: b1 :: l) (hp : 2 ≤ p) : (L.take p).set 1 c1 = b0 :: c1 :: l.take (p - 2) := by
  obtain ⟨q, rfl⟩ : ∃ q, p = q + 2 := ⟨p - 2, by omega⟩
  subst h
  simp
def UnmkPost (w : World) (e : Ending) (w' : World) : Prop := ∃ t : ByteArray, e = .returned (.string t) ∧ Below w.heap.size w w' ∧ t.size ≤ 1000 ∧ ∃ b0 b1 l, t.data.toList = b0 :: b1 :: l ∧ b1.toNat < 128

set_option maxHeartbeats 4000000 in
set_option maxRecDepth 100000 in
theorem unmasked_any (f : Fa) (w : World) (ho : f.Ok) (hs : f.data.size ≤ 400) : Calls Tryd.prog 14 #[f.v] w (UnmkPost w) := by
  obtain ⟨i0, hi0, hz0, hz1, hz2⟩ := info_parts info5
  have HI := Lib.hid (And.intro hi0 (And.intro hz0 (And.intro hz1 hz2)))
  clear hi0 hz0 hz1 hz2
  obtain ⟨op, fin, mask, s⟩ := f
  have h1 := ho.op
  simp only at h1 hs
  have h16 := fun W => written_any ⟨op, fin, 0, s⟩ W ⟨h1, by simp only; omega, by simp only; omega⟩ hs
  unfold Fa.v at h16 ⊢
  simp only at h16 ⊢
  have hbx := Lib.hid (K.heap_alloc_at w (.cells #[.int .u8 op, .bool fin, .int .u32 0, .string s] 29))
  have hbl := Lib.hid ((Below.refl w.heap.size w).alloc (Nat.le_refl _) (.cells #[.int .u8 op, .bool fin, .int .u32 0, .string s] 29))
  go_enter Tryd.func14, Tryd.ntmps14
  go_wp2_with fail
  refine (h16 _).mono ?_
  rintro e w2 ⟨rfl, hb2⟩
  have hbx2 := (hb2.block w.heap.size (by simp)).trans hbx.out
  have hbl2 := hbl.out.trans (hb2.mono (by simp))
  have hs2 : w.heap.size < w2.heap.size := by have := hb2.size; simp at this; omega
  clear hb2 h16 ho
  obtain ⟨p, b0, b1, l2, hL, hLl, hp2, hp4⟩ := written_parts ⟨op, fin, 0, s⟩ hs
  simp only at hL hLl ⊢
  generalize Fr.written (⟨op, fin, 0, s⟩ : Fa).f0 0 = L at hL hLl ⊢
  obtain ⟨t, ht⟩ : ∃ t : ByteArray, (⟨L.toArray⟩ : ByteArray) = t := ⟨_, rfl⟩
  have htl : t.data.toList = L := by rw [← ht]
  have hts : t.size = p + 4 + s.size := by rw [← K.bsize, htl, hLl]
  rw [ht]
  have hcv := conv50 w2 t
  have hcap := grownCap_ge w2 t.size 0 5
  have hsz3 := Lib.bytesWorld_size w2 5 t
  have hrow := ByteRow.new w2 t
  have hbl3 := hbl2.trans ((Lib.bytesWorld_below w2 5 t).mono (by omega))
  have hbx3 := ((Lib.bytesWorld_below w2 5 t).block w.heap.size (by omega)).trans hbx2
  rw [hts] at hcv hcap
  rw [htl] at hrow
  generalize grownCap w2 (p + 4 + s.size) 0 5 = cp at hcv hcap
  generalize Lib.bytesWorld w2 5 t = w3 at hcv hsz3 hrow hbl3 hbx3
  have hcell : w3.cell? ⟨w.heap.size, 3, none⟩ = some (.string s) := by simp [World.cell?, hbx3]
  obtain ⟨S, hS⟩ : ∃ S, w2.heap.size = S := ⟨_, rfl⟩
  rw [hS] at hcv hsz3 hrow hs2
  have HH := Lib.hid (And.intro hrow (And.intro hbl3 (And.intro hsz3 (And.intro hL hLl))))
  clear hrow hbl3 hbx3 hsz3 hL hLl hts htl ht hS hbx2 hbl2
  go_wp2_with (at_builtin; refine Hid.out ?_)
  refine Lib.hid ?_
  have hnw := map_bv_cells (o := 0) HH.out.1 (L.take p) (fun j c hj => by rw [List.getElem?_take] at hj; rw [Nat.zero_add]; split at hj; exact hj; cases hj)
  refine wpList_append_lies _ rfl _ _ _ rfl (w.heap.size + 1) 5 i0 _ 1 1 Tryd.underlying50 HI.out.1 HI.out.2.1 HI.out.2.2.1 HI.out.2.2.2 rfl (by omega) (.slice none 0 0) 0 [] rfl (World.ownsRow_nil _ _ _ _) ⟨S, 0, none⟩ p cp ((L.take p).map bv) rfl (by have := HH.out.2.2.2.2; simp; omega) hnw (by intro u hu; obtain ⟨c, _, rfl⟩ := List.mem_map.1 hu; rfl) (by omega) (by unfold maxLen; omega) (by omega) (by have := HH.out.2.2.1; omega) (S + 1) HH.out.2.2.1 ?_
  intro g1 cp1 w4 hown1 hgrow1 hat1 hlt1
  have hg1 : g1 = S + 1 := by
    rcases hat1 with h | h
    · simp [Value.ownBlock] at h
    · exact h
  subst hg1
  rw [Nat.zero_add, List.nil_append] at hown1
  have hr4 := (own_row hown1).1
  have hLt : (L.take p)[1]? = some b1 := by rw [HH.out.2.2.2.1, List.getElem?_take, if_pos (by omega)]; rfl
  have d1 := hr4.cell hLt
  have d2 := hr4.fz (j := 1) (by have := HH.out.2.2.2.2; simp; omega)
  have hrS : ByteRow w4 S L := HH.out.1.at (hgrow1.block S (by rw [HH.out.2.2.1]; omega) (by simp [Value.ownBlock]))
  have hbl4 : Below w.heap.size w w4 := HH.out.2.1.grown hgrow1 (by rw [HH.out.2.2.1]; omega) (by intro q hq; simp [Value.ownBlock] at hq)
  have h127 := and127 b1
  have hc1 : (UInt8.ofNat (b1.toNat % 128)).toNat < 128 := by rw [show (UInt8.ofNat (b1.toNat % 128)).toNat = b1.toNat % 128 % 256 from UInt8.toNat_ofNat']; omega
  generalize UInt8.ofNat (b1.toNat % 128) = c1 at h127 hc1
  have H4 := Lib.hid (And.intro hown1 (And.intro hrS (And.intro hbl4 hLt)))
  clear hown1 hgrow1 hat1 hr4 hLt hrS hbl4 hnw hcv hcell
  have hpcp : p + 4 + s.size ≤ cp := hcap
  obtain ⟨s1, hs1⟩ : ∃ s1, w4.heap.size = s1 := ⟨_, rfl⟩
  have HS1 := Lib.hid hs1
  rw [hs1] at hlt1
  clear hs1
  by_cases hcc : cp = p + 4
  · have hnw := fun j u (hj : ((L.drop (p + 4)).map bv)[j]? = some u) => (show (w4.setCell ⟨S + 1, 1, none⟩ (.int .u8 (c1.toNat : Int))).cell? ((⟨S, 0, none⟩ : Addr).add j) = some u from by
      rw [List.drop_of_length_le (by have := HH.out.2.2.2.2; omega)] at hj
      cases hj)
    have HCC := Lib.hid hcc
    go_wp2_with (at_builtin; refine Hid.out ?_)
    refine Lib.hid ?_
    refine wpList_append_own _ rfl _ _ _ rfl (w.heap.size + 1) 5 i0 _ 1 1 Tryd.underlying50 HI.out.1 HI.out.2.1 HI.out.2.2.1 HI.out.2.2.2 rfl (by omega) (.slice (some ⟨S + 1, 0, none⟩) p cp1) p (((L.take p).map bv).set 1 (.int .u8 (c1.toNat : Int))) rfl (own_set H4.out.1) ⟨S, 0, none⟩ (p + 4 + s.size - (p + 4)) _ ((L.drop (p + 4)).map bv) rfl (by have := HH.out.2.2.2.2; simp; omega) hnw (by intro u hu; obtain ⟨c, _, rfl⟩ := List.mem_map.1 hu; rfl) (by unfold maxLen; omega) (by omega) (by have := H4.out.2.2.1.size; simp; rw [HS1.out]; omega) ?_
    intro v' w5 hown5 hgrow5 _
    obtain ⟨g5, cp5, rfl, _, _⟩ := hown5.form (by omega)
    have hbl5 : Below w.heap.size w w5 := (H4.out.2.2.1.setCell (p := ⟨S + 1, 1, none⟩) (by simp only; omega) (.int .u8 (c1.toNat : Int))).grown hgrow5 (by have := H4.out.2.2.1.size; simp; omega) (by intro q hq; simp [Value.ownBlock] at hq; omega)
    rw [set_bv, ← List.map_append] at hown5
    obtain ⟨hr5, hl5⟩ := own_row hown5
    have hcv5 := hr5.convAt (o := 0) (n := p + (p + 4 + s.size - (p + 4))) (c := cp5) (by omega)
    rw [List.drop_zero, List.take_of_length_le (by omega)] at hcv5
    have HF := Lib.hid (And.intro hbl5 hl5)
    clear hown5 hgrow5 hbl5 hr5 hl5
    rw [show p + 4 + s.size - (p + 4) = s.size from by omega] at hcv5 ⊢
    go_wp2_with fail
    go_ret
    have hL := HH.out.2.2.2.1
    refine ⟨_, rfl, HF.out.1, by rw [← K.bsize]; simp only; rw [HF.out.2]; omega, b0, c1, l2.take (p - 2) ++ L.drop (p + 4), ?_, hc1⟩
    simp only
    rw [take_two hL hp2]
    rfl
  · have hrS5 : ByteRow (w4.setCell ⟨S + 1, 1, none⟩ (.int .u8 (c1.toNat : Int))) S L := H4.out.2.1.at (Below.heap_setCell _ _ _ _ (by simp only; omega))
    have hnw := map_bv_cells (o := p + 4) hrS5 (L.drop (p + 4)) (fun j c hj => by rw [List.getElem?_drop] at hj; exact hj)
    clear hrS5
    go_wp2_with (at_builtin; refine Hid.out ?_)
    refine Lib.hid ?_
    refine wpList_append_own _ rfl _ _ _ rfl (w.heap.size + 1) 5 i0 _ 1 1 Tryd.underlying50 HI.out.1 HI.out.2.1 HI.out.2.2.1 HI.out.2.2.2 rfl (by omega) (.slice (some ⟨S + 1, 0, none⟩) p cp1) p (((L.take p).map bv).set 1 (.int .u8 (c1.toNat : Int))) rfl (own_set H4.out.1) ⟨S, p + 4, none⟩ (p + 4 + s.size - (p + 4)) _ ((L.drop (p + 4)).map bv) rfl (by have := HH.out.2.2.2.2; simp; omega) hnw (by intro u hu; obtain ⟨c, _, rfl⟩ := List.mem_map.1 hu; rfl) (by unfold maxLen; omega) (by omega) (by have := H4.out.2.2.1.size; simp; rw [HS1.out]; omega) ?_
    intro v' w5 hown5 hgrow5 _
    obtain ⟨g5, cp5, rfl, _, _⟩ := hown5.form (by omega)
    have hbl5 : Below w.heap.size w w5 := (H4.out.2.2.1.setCell (p := ⟨S + 1, 1, none⟩) (by simp only; omega) (.int .u8 (c1.toNat : Int))).grown hgrow5 (by have := H4.out.2.2.1.size; simp; omega) (by intro q hq; simp [Value.ownBlock] at hq; omega)
    rw [set_bv, ← List.map_append] at hown5
    obtain ⟨hr5, hl5⟩ := own_row hown5
    have hcv5 := hr5.convAt (o := 0) (n := p + (p + 4 + s.size - (p + 4))) (c := cp5) (by omega)
    rw [List.drop_zero, List.take_of_length_le (by omega)] at hcv5
    have HF := Lib.hid (And.intro hbl5 hl5)
    clear hown5 hgrow5 hbl5 hr5 hl5
    rw [show p + 4 + s.size - (p + 4) = s.size from by omega] at hcv5 ⊢
    go_wp2_with fail
    go_ret
    have hL := HH.out.2.2.2.1
    refine ⟨_, rfl, HF.out.1, by rw [← K.bsize]; simp only; rw [HF.out.2]; omega, b0, c1, l2.take (p - 2) ++ L.drop (p + 4), ?_, hc1⟩
    simp only
    rw [take_two hL hp2]
    rfl
end Go.Proofs.YtkkedekgniffoaaDoor
