/-
  ValidateMapping over a destination of plain tokens, of which the last may stand for all that follows; impl.ValidMapping.
-/
import Derived.Test.YtocfcajafkkhdaaDoorCa
namespace Go.Proofs.YtocfcajafkkhdaaDoor
open Go.RowKit

/-- a plain token -/
def Pl (t : List UInt8) : Prop := (∃ c r, t = c :: r ∧ c ≠ 123 ∧ c ≠ 62) ∧ ∀ x ∈ t, 33 ≤ x.toNat ∧ x.toNat < 128
def NilPost (w : World) (e : Ending) (w' : World) : Prop := e = .returned .nilIface ∧ Below w.heap.size w w'
/-- a pointer and no error -/
def PtrPost (w : World) (e : Ending) (w' : World) : Prop := ∃ p, e = .returned (.tuple #[.pointer (some ⟨p, 0, none⟩), .nilIface]) ∧ Below w.heap.size w w'
theorem first_of' {tb : ByteArray} {c : UInt8} {r : List UInt8} (h : tb.data.toList = c :: r) : ∃ h0 : 0 < tb.size, tb[0] = c := by
  have h0 : 0 < tb.size := by rw [← K.bsize, h]; simp
  refine ⟨h0, ?_⟩
  have := get_at h0
  rw [h] at this
  simpa using this.symm
theorem sv_bytes' (t : List UInt8) : ∃ tb : ByteArray, sv t = .string tb ∧ tb.data.toList = t ∧ tb.size = t.length := ⟨⟨t.toArray⟩, rfl, rfl, bs_size t⟩
theorem spaces_none (tb : ByteArray) (w : World) (hs : tb.size ≤ 100000) (h : ∀ x ∈ tb.data.toList, 33 ≤ x.toNat ∧ x.toNat < 128) : Calls Tryd.prog 36 #[.string tb, .string ⟨#[9, 10, 12, 13, 32]⟩] w (NonePost (.bool false) w) := by
  have hm : ∀ i (hi : i < tb.size), 33 ≤ tb[i].toNat ∧ tb[i].toNat < 128 := fun i hi => h _ (List.mem_of_getElem? (get_at hi))
  have hch : ∀ i (hi : i < (⟨#[9, 10, 12, 13, 32]⟩ : ByteArray).size), (⟨#[9, 10, 12, 13, 32]⟩ : ByteArray)[i].toNat < 33 := by decide
  refine any_none tb _ w hs (by decide) (fun i hi => (hm i hi).2) (fun i hi => by have := hch i hi; omega) (fun i hi j hj e => ?_)
  have h1 := (hm i hi).1
  have h2 := hch j hj
  rw [e] at h1
  omega
set_option maxHeartbeats 8000000 in
set_option maxRecDepth 100000 in
theorem validate_plain (src dest : ByteArray) (D : List (List UInt8)) (w : World) (hd : dest.size ≤ 100000) (hD : sp 46 dest.data.toList = D) (tD : Toks D) (hpl : ∀ t ∈ D, t = [62] ∨ Pl t) (hDl : ∀ t ∈ D, t.length ≤ 1000)
    (hnt : ∀ w', Below w.heap.size w w' → Calls Tryd.prog 37 #[.string src, .string dest] w' (PtrPost w')) : Calls Tryd.prog 24 #[.string src, .string dest] w (NilPost w) := by
  have h34 := split_any 46 dest w hd
  unfold SplitPost at h34
  rw [hD] at h34
  have hlD := sp_length 46 dest.data.toList
  rw [hD, K.bsize] at hlD
  have e1 : dest.toList.isEmpty = false := by
    rw [ByteArray.toList_eq, List.isEmpty_eq_false_iff]
    intro e
    rw [e] at hD
    have := tD.1 [] (by rw [← hD]; simp [sp])
    exact this rfl
  have HH := Lib.hid (And.intro tD (And.intro hpl (And.intro hDl hnt)))
  clear hD tD hpl hDl hnt
  go_enter Tryd.func24, Tryd.ntmps24
  go_wp2_with fail
  refine h34.mono ?_
  rintro e w1 ⟨v, rfl, hb1, hown⟩
  clear h34
  obtain ⟨A, cap, rfl, hnc, _, hA, _⟩ := K.lies_of_own hown
  have HA := Lib.hid (And.intro hA hb1)
  have hsz := hb1.size
  clear hown hA hb1
  go_wp2_with fail
  go_loopg [5, 16] (D.length) (fun gk f i wr => ∃ k : Nat, gk + k = D.length ∧ i = .int .i64 k ∧ f = .bool (fwc (D.take k)) ∧ Hid (Below w1.heap.size w1 wr))
  case atStart => exact ⟨0, by omega, rfl, rfl, Lib.hid (Below.refl _ _)⟩
  case round =>
    obtain ⟨k, hgk, rfl, rfl, HB⟩ := hrel
    by_cases hlt : k < D.length
    · obtain ⟨ab, ao, rfl, hab, hcs⟩ := HA.out.1 (by omega)
      have c1 : wr.cell? ⟨ab, ao + k, none⟩ = some (sv (D.getD k [])) := by
        refine (HB.out.cell (p := ⟨ab, ao + k, none⟩) hab).trans ((hcs k hlt).trans ?_)
        simp [List.getD, hlt]
      have hsp : D = D.take k ++ D.getD k [] :: D.drop (k + 1) := by
        conv => lhs; rw [← List.take_append_drop k D, List.drop_eq_getElem_cons hlt]
        simp [List.getD, hlt]
      have hno := HH.out.1.no hsp
      have hf := fwc_snoc (D.take k) (D.getD k [])
      rw [show D.take k ++ [D.getD k []] = D.take (k + 1) from by rw [List.take_succ_eq_append_getElem hlt]; simp [List.getD, hlt], hno, Bool.false_or] at hf
      have hp := HH.out.2.1 (D.getD k []) (by simp [List.getD, hlt])
      have hlen := HH.out.2.2.1 (D.getD k []) (by simp [List.getD, hlt])
      rw [hno]
      clear hsp hcs hno
      generalize D.getD k [] = t at c1 hf hp hlen
      have HF := Lib.hid hf
      have HGK := Lib.hid hgk
      clear hf hgk
      rcases hp with rfl | hp
      · have c2 : wr.cell? ⟨ab, ao + k, none⟩ = some (.string ⟨#[62]⟩) := c1
        clear c1
        go_wp2_with fail
        go_roundg (gk - 1)
        case measure => have := HGK.out; omega
        case rel => exact ⟨k + 1, by have := HGK.out; omega, by go_num, by rw [HF.out]; rfl, HB⟩
      · obtain ⟨⟨c, r, htr, n123, n62⟩, hg⟩ := hp
        obtain ⟨tb, htb, htl, hts⟩ := sv_bytes' t
        rw [htb] at c1
        obtain ⟨p0, p1⟩ := first_of' (htl.trans htr)
        have z0 : ((tb.size : Int) == 0) = false := by rw [beq_eq_false_iff_ne]; omega
        have b123 : (((tb[0].toNat : Nat) : Int) == 123) = false := ne_int (show tb[0] ≠ 123 from by rw [p1]; exact n123)
        have b62 : (((tb[0].toNat : Nat) : Int) == 62) = false := ne_int (show tb[0] ≠ 62 from by rw [p1]; exact n62)
        have htsz : tb.size ≤ 100000 := by omega
        have h36 := fun w => spaces_none tb w htsz (by rw [htl]; exact hg)
        have hne : (t == [62]) = false := by rw [beq_eq_false_iff_ne, htr]; intro e; injection e with e _; exact n62 e
        have HNE := Lib.hid hne
        clear htb htl hts htr p1 n123 n62 hg hne hlen
        by_cases h1 : tb.size = 1
        · have z1 : ((tb.size : Int) == 1) = true := by rw [h1]; rfl
          have z4 : ¬ (4 : Int) < (tb.size : Int) := by omega
          clear h1
          go_wp2_with fail
          refine (h36 _).mono ?_
          rintro e w2 ⟨rfl, hb2⟩
          have HB2 := Lib.hid (HB.out.trans (hb2.mono HB.out.size))
          clear hb2
          go_wp2_with fail
          go_roundg (gk - 1)
          case measure => have := HGK.out; omega
          case rel => exact ⟨k + 1, by have := HGK.out; omega, by go_num, by rw [HF.out, HNE.out], HB2⟩
        · have z1 : ((tb.size : Int) == 1) = false := by rw [beq_eq_false_iff_ne]; omega
          clear h1
          go_wp2_with fail
          all_goals
            refine (h36 _).mono ?_
            rintro e w2 ⟨rfl, hb2⟩
            have HB2 := Lib.hid (HB.out.trans (hb2.mono HB.out.size))
            clear hb2
            go_wp2_with fail
            go_roundg (gk - 1)
            case measure => have := HGK.out; omega
            case rel => exact ⟨k + 1, by have := HGK.out; omega, by go_num, by rw [HF.out, HNE.out], HB2⟩
    · have hbw : Below w.heap.size w wr := HA.out.2.trans (HB.out.mono hsz)
      have h37 := HH.out.2.2.2 wr hbw
      have HW := Lib.hid hbw
      clear hbw
      go_wp2_with fail
      refine h37.mono ?_
      rintro e w2 ⟨p, rfl, hb2⟩
      have HB2 := Lib.hid (HW.out.trans (hb2.mono HW.out.size))
      clear hb2 h37
      go_wp2_with fail
      go_ret
      exact ⟨rfl, HB2.out⟩
def ValidPost (w : World) (e : Ending) (w' : World) : Prop := e = .returned (.bool true) ∧ Below w.heap.size w w'
set_option maxRecDepth 100000 in
theorem validMapping_any (src dest : ByteArray) (w : World) (h : Calls Tryd.prog 24 #[.string src, .string dest] w (NilPost w)) : Calls Tryd.prog 12 #[.string src, .string dest] w (ValidPost w) := by
  go_enter Tryd.func12, Tryd.ntmps12
  go_wp2_with fail
  refine h.mono ?_
  rintro e w1 ⟨rfl, hb⟩
  clear h
  go_wp2_with fail
  go_ret
  exact ⟨rfl, hb⟩
end Go.Proofs.YtocfcajafkkhdaaDoor
