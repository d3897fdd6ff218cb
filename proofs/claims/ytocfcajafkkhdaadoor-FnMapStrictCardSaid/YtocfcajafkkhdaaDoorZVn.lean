/-
  ValidateMapping over a destination of words, wildcards and functions, of which the last may stand for all that follows. Printed by wip/py/gen_vn.py.
-/
import Derived.Test.YtocfcajafkkhdaaDoorZG2
import Derived.Test.YtocfcajafkkhdaaDoorZG13
namespace Go.Proofs.YtocfcajafkkhdaaDoor
open Go.RowKit

set_option maxRecDepth 100000 in
theorem if_hit {s : ByteArray} {fn args : List UInt8} (h : Mu s fn args) (name : ByteArray) (w : World) (hm : hit name.data.toList fn = true) : Calls Tryd.prog 35 #[.string name, .string s] w (BoolIs true w) := by
  have h49 := fa_yes s name fn args w h (nm_is h name hm).1 (nm_is h name hm).2
  clear h hm
  go_enter Tryd.func35, Tryd.ntmps35
  go_wp2_with fail
  with_reducible refine h49.mono ?_
  rintro e w1 ⟨rfl, rfl⟩
  clear h49
  go_wp2_with fail
  go_ret
  exact ⟨rfl, rfl⟩
set_option maxRecDepth 100000 in
theorem if_miss {s : ByteArray} {fn args : List UInt8} (h : Mu s fn args) (name : ByteArray) (w : World) (hm : mis name.data.toList fn = true) (hn : name.size ≤ 100) : Calls Tryd.prog 35 #[.string name, .string s] w (BoolIs false w) := by
  have h49 := fa_no s name fn args w h hn (.inl (nm_not h name hm))
  clear h hm
  go_enter Tryd.func35, Tryd.ntmps35
  go_wp2_with fail
  with_reducible refine h49.mono ?_
  rintro e w1 ⟨rfl, rfl⟩
  clear h49
  go_wp2_with fail
  go_ret
  exact ⟨rfl, rfl⟩
/-- a token in double braces, its name one of these -/
def MuT (t : List UInt8) : Prop := ∃ fn args, Mu ⟨t.toArray⟩ fn args ∧ (fn = [112, 97, 114, 116, 105, 116, 105, 111, 110] ∨ fn = [119, 105, 108, 100, 99, 97, 114, 100] ∨ fn = [115, 112, 108, 105, 116, 70, 114, 111, 109, 76, 101, 102, 116] ∨ fn = [115, 112, 108, 105, 116, 70, 114, 111, 109, 82, 105, 103, 104, 116] ∨ fn = [115, 108, 105, 99, 101, 70, 114, 111, 109, 76, 101, 102, 116] ∨ fn = [115, 108, 105, 99, 101, 70, 114, 111, 109, 82, 105, 103, 104, 116] ∨ fn = [115, 112, 108, 105, 116] ∨ fn = [108, 101, 102, 116] ∨ fn = [114, 105, 103, 104, 116])
set_option maxHeartbeats 8000000 in
set_option maxRecDepth 100000 in
theorem validate_all (src dest : ByteArray) (D : List (List UInt8)) (w : World) (hd : dest.size ≤ 100000) (hD : sp 46 dest.data.toList = D) (tD : Toks D) (hpl : ∀ t ∈ D, t = [62] ∨ Pl t ∨ MuT t) (hDl : ∀ t ∈ D, t.length ≤ 1000)
    (hnt : ∀ w', Below w.heap.size w w' → Calls Tryd.prog 37 #[.string src, .string dest] w' (PtrPost w')) : Calls Tryd.prog 24 #[.string src, .string dest] w (NilPost w) := by
  have h34 := split_any 46 dest w hd
  unfold SplitPost at h34
  rw [hD] at h34
  have hlD := sp_length 46 dest.data.toList
  rw [hD, K.bsize] at hlD
  have e1 : dest.toList.isEmpty = false := by
    rw [ByteArray.toList_eq, List.isEmpty_eq_false_iff]
    intro e
    rw [e] at hD
    have := tD.1 [] (by rw [← hD]; simp [sp])
    exact this rfl
  have HH := Lib.hid (And.intro tD (And.intro hpl (And.intro hDl hnt)))
  clear hD tD hpl hDl hnt
  go_enter Tryd.func24, Tryd.ntmps24
  go_wp2_with fail
  refine h34.mono ?_
  rintro e w1 ⟨v, rfl, hb1, hown⟩
  clear h34
  obtain ⟨A, cap, rfl, hnc, _, hA, _⟩ := K.lies_of_own hown
  have HA := Lib.hid (And.intro hA hb1)
  have hsz := hb1.size
  clear hown hA hb1
  go_wp2_with fail
  go_loopg [5, 16] (D.length) (fun gk f i wr => ∃ k : Nat, gk + k = D.length ∧ i = .int .i64 k ∧ f = .bool (fwc (D.take k)) ∧ Hid (Below w1.heap.size w1 wr))
  case atStart => exact ⟨0, by omega, rfl, rfl, Lib.hid (Below.refl _ _)⟩
  case round =>
    obtain ⟨k, hgk, rfl, rfl, HB⟩ := hrel
    by_cases hlt : k < D.length
    · obtain ⟨ab, ao, rfl, hab, hcs⟩ := HA.out.1 (by omega)
      have c1 : wr.cell? ⟨ab, ao + k, none⟩ = some (sv (D.getD k [])) := by
        refine (HB.out.cell (p := ⟨ab, ao + k, none⟩) hab).trans ((hcs k hlt).trans ?_)
        simp [List.getD, hlt]
      have hsp : D = D.take k ++ D.getD k [] :: D.drop (k + 1) := by
        conv => lhs; rw [← List.take_append_drop k D, List.drop_eq_getElem_cons hlt]
        simp [List.getD, hlt]
      have hno := HH.out.1.no hsp
      have hf := fwc_snoc (D.take k) (D.getD k [])
      rw [show D.take k ++ [D.getD k []] = D.take (k + 1) from by rw [List.take_succ_eq_append_getElem hlt]; simp [List.getD, hlt], hno, Bool.false_or] at hf
      have hp := HH.out.2.1 (D.getD k []) (by simp [List.getD, hlt])
      have hlen := HH.out.2.2.1 (D.getD k []) (by simp [List.getD, hlt])
      rw [hno]
      clear hsp hcs hno
      generalize D.getD k [] = t at c1 hf hp hlen
      have HF := Lib.hid hf
      have HGK := Lib.hid hgk
      clear hf hgk
      rcases hp with rfl | hp | ⟨fn, args, hm, hfn⟩
      · have c2 : wr.cell? ⟨ab, ao + k, none⟩ = some (.string ⟨#[62]⟩) := c1
        clear c1
        go_wp2_with fail
        go_roundg (gk - 1)
        case measure => have := HGK.out; omega
        case rel => exact ⟨k + 1, by have := HGK.out; omega, by go_num, by rw [HF.out]; rfl, HB⟩
      · obtain ⟨⟨c, r, htr, n123, n62⟩, hg⟩ := hp
        obtain ⟨tb, htb, htl, hts⟩ := sv_bytes' t
        rw [htb] at c1
        obtain ⟨p0, p1⟩ := first_of' (htl.trans htr)
        have z0 : ((tb.size : Int) == 0) = false := by rw [beq_eq_false_iff_ne]; omega
        have b123 : (((tb[0].toNat : Nat) : Int) == 123) = false := ne_int (show tb[0] ≠ 123 from by rw [p1]; exact n123)
        have b62 : (((tb[0].toNat : Nat) : Int) == 62) = false := ne_int (show tb[0] ≠ 62 from by rw [p1]; exact n62)
        have htsz : tb.size ≤ 100000 := by omega
        have h36 := fun w => spaces_none tb w htsz (by rw [htl]; exact hg)
        have hne : (t == [62]) = false := by rw [beq_eq_false_iff_ne, htr]; intro e; injection e with e _; exact n62 e
        have HNE := Lib.hid hne
        clear htb htl hts htr p1 n123 n62 hg hne hlen
        by_cases h1 : tb.size = 1
        · have z1 : ((tb.size : Int) == 1) = true := by rw [h1]; rfl
          have z4 : ¬ (4 : Int) < (tb.size : Int) := by omega
          clear h1
          go_wp2_with fail
          refine (h36 _).mono ?_
          rintro e w2 ⟨rfl, hb2⟩
          have HB2 := Lib.hid (HB.out.trans (hb2.mono HB.out.size))
          clear hb2
          go_wp2_with fail
          go_roundg (gk - 1)
          case measure => have := HGK.out; omega
          case rel => exact ⟨k + 1, by have := HGK.out; omega, by go_num, by rw [HF.out, HNE.out], HB2⟩
        · have z1 : ((tb.size : Int) == 1) = false := by rw [beq_eq_false_iff_ne]; omega
          clear h1
          go_wp2_with fail
          all_goals
            refine (h36 _).mono ?_
            rintro e w2 ⟨rfl, hb2⟩
            have HB2 := Lib.hid (HB.out.trans (hb2.mono HB.out.size))
            clear hb2
            go_wp2_with fail
            go_roundg (gk - 1)
            case measure => have := HGK.out; omega
            case rel => exact ⟨k + 1, by have := HGK.out; omega, by go_num, by rw [HF.out, HNE.out], HB2⟩
      · have hne : (t == [62]) = false := by
          rw [beq_eq_false_iff_ne]
          rintro rfl
          have h5 := hm.size
          have e5 : (⟨([62] : List UInt8).toArray⟩ : ByteArray).size = 1 := rfl
          omega
        obtain ⟨tb, htb⟩ : ∃ tb : ByteArray, (⟨t.toArray⟩ : ByteArray) = tb := ⟨_, rfl⟩
        have htv : sv t = .string tb := by unfold sv; rw [htb]
        rw [htb] at hm
        rw [htv] at c1
        have HNE := Lib.hid hne
        obtain ⟨z, hz, hz4, ⟨l0, e0⟩, ⟨l1, e1⟩, ⟨l2, e2⟩, ⟨l3, e3⟩⟩ := hm.ends
        have hl := hm.len
        have z0 : ((tb.size : Int) == 0) = false := by rw [beq_eq_false_iff_ne]; omega
        have q0 : (tb.size : Int) - 2 = (z : Int) := by omega
        have q1 : (tb.size : Int) - 1 = (z : Int) + 1 := by omega
        have q2 : ((z : Int) + 1).toNat = z + 1 := by omega
        have q3 : (4 : Int) < (tb.size : Int) := by omega
        have p0 : (z : Int) < (tb.size : Int) := by omega
        have p1 : (z : Int) + 1 < (tb.size : Int) := by omega
        have HMU := Lib.hid hm
        clear hne htb htv hm hz hlen
        rcases hfn with rfl | rfl | rfl | rfl | rfl | rfl | rfl | rfl | rfl
        · as_aux_lemma =>
          have my := fun w => if_hit HMU.out ⟨#[80, 97, 114, 116, 105, 116, 105, 111, 110]⟩ w (by decide)
          go_wp2_with fail
          with_reducible refine (my _).mono ?_
          rintro e w2 ⟨rfl, rfl⟩
          clear my
          go_wp2_with fail
          go_roundg (gk - 1)
          case measure => have := HGK.out; omega
          case rel => exact ⟨k + 1, by have := HGK.out; omega, by go_num, by rw [HF.out, HNE.out], HB⟩
        · as_aux_lemma =>
          have m0 := fun w => if_miss HMU.out ⟨#[80, 97, 114, 116, 105, 116, 105, 111, 110]⟩ w (by decide) (by decide)
          have my := fun w => if_hit HMU.out ⟨#[87, 105, 108, 100, 99, 97, 114, 100]⟩ w (by decide)
          go_wp2_with fail
          with_reducible refine (m0 _).mono ?_
          rintro e w2 ⟨rfl, rfl⟩
          clear m0
          go_wp2_with fail
          with_reducible refine (my _).mono ?_
          rintro e w2 ⟨rfl, rfl⟩
          clear my
          go_wp2_with fail
          go_roundg (gk - 1)
          case measure => have := HGK.out; omega
          case rel => exact ⟨k + 1, by have := HGK.out; omega, by go_num, by rw [HF.out, HNE.out], HB⟩
        · as_aux_lemma =>
          have m0 := fun w => if_miss HMU.out ⟨#[80, 97, 114, 116, 105, 116, 105, 111, 110]⟩ w (by decide) (by decide)
          have m1 := fun w => if_miss HMU.out ⟨#[87, 105, 108, 100, 99, 97, 114, 100]⟩ w (by decide) (by decide)
          have my := fun w => if_hit HMU.out ⟨#[83, 112, 108, 105, 116, 70, 114, 111, 109, 76, 101, 102, 116]⟩ w (by decide)
          go_wp2_with fail
          with_reducible refine (m0 _).mono ?_
          rintro e w2 ⟨rfl, rfl⟩
          clear m0
          go_wp2_with fail
          with_reducible refine (m1 _).mono ?_
          rintro e w2 ⟨rfl, rfl⟩
          clear m1
          go_wp2_with fail
          with_reducible refine (my _).mono ?_
          rintro e w2 ⟨rfl, rfl⟩
          clear my
          go_wp2_with fail
          go_roundg (gk - 1)
          case measure => have := HGK.out; omega
          case rel => exact ⟨k + 1, by have := HGK.out; omega, by go_num, by rw [HF.out, HNE.out], HB⟩
        · as_aux_lemma =>
          have m0 := fun w => if_miss HMU.out ⟨#[80, 97, 114, 116, 105, 116, 105, 111, 110]⟩ w (by decide) (by decide)
          have m1 := fun w => if_miss HMU.out ⟨#[87, 105, 108, 100, 99, 97, 114, 100]⟩ w (by decide) (by decide)
          have m2 := fun w => if_miss HMU.out ⟨#[83, 112, 108, 105, 116, 70, 114, 111, 109, 76, 101, 102, 116]⟩ w (by decide) (by decide)
          have my := fun w => if_hit HMU.out ⟨#[83, 112, 108, 105, 116, 70, 114, 111, 109, 82, 105, 103, 104, 116]⟩ w (by decide)
          go_wp2_with fail
          with_reducible refine (m0 _).mono ?_
          rintro e w2 ⟨rfl, rfl⟩
          clear m0
          go_wp2_with fail
          with_reducible refine (m1 _).mono ?_
          rintro e w2 ⟨rfl, rfl⟩
          clear m1
          go_wp2_with fail
          with_reducible refine (m2 _).mono ?_
          rintro e w2 ⟨rfl, rfl⟩
          clear m2
          go_wp2_with fail
          with_reducible refine (my _).mono ?_
          rintro e w2 ⟨rfl, rfl⟩
          clear my
          go_wp2_with fail
          go_roundg (gk - 1)
          case measure => have := HGK.out; omega
          case rel => exact ⟨k + 1, by have := HGK.out; omega, by go_num, by rw [HF.out, HNE.out], HB⟩
        · as_aux_lemma =>
          have m0 := fun w => if_miss HMU.out ⟨#[80, 97, 114, 116, 105, 116, 105, 111, 110]⟩ w (by decide) (by decide)
          have m1 := fun w => if_miss HMU.out ⟨#[87, 105, 108, 100, 99, 97, 114, 100]⟩ w (by decide) (by decide)
          have m2 := fun w => if_miss HMU.out ⟨#[83, 112, 108, 105, 116, 70, 114, 111, 109, 76, 101, 102, 116]⟩ w (by decide) (by decide)
          have m3 := fun w => if_miss HMU.out ⟨#[83, 112, 108, 105, 116, 70, 114, 111, 109, 82, 105, 103, 104, 116]⟩ w (by decide) (by decide)
          have my := fun w => if_hit HMU.out ⟨#[83, 108, 105, 99, 101, 70, 114, 111, 109, 76, 101, 102, 116]⟩ w (by decide)
          go_wp2_with fail
          with_reducible refine (m0 _).mono ?_
          rintro e w2 ⟨rfl, rfl⟩
          clear m0
          go_wp2_with fail
          with_reducible refine (m1 _).mono ?_
          rintro e w2 ⟨rfl, rfl⟩
          clear m1
          go_wp2_with fail
          with_reducible refine (m2 _).mono ?_
          rintro e w2 ⟨rfl, rfl⟩
          clear m2
          go_wp2_with fail
          with_reducible refine (m3 _).mono ?_
          rintro e w2 ⟨rfl, rfl⟩
          clear m3
          go_wp2_with fail
          with_reducible refine (my _).mono ?_
          rintro e w2 ⟨rfl, rfl⟩
          clear my
          go_wp2_with fail
          go_roundg (gk - 1)
          case measure => have := HGK.out; omega
          case rel => exact ⟨k + 1, by have := HGK.out; omega, by go_num, by rw [HF.out, HNE.out], HB⟩
        · as_aux_lemma =>
          have m0 := fun w => if_miss HMU.out ⟨#[80, 97, 114, 116, 105, 116, 105, 111, 110]⟩ w (by decide) (by decide)
          have m1 := fun w => if_miss HMU.out ⟨#[87, 105, 108, 100, 99, 97, 114, 100]⟩ w (by decide) (by decide)
          have m2 := fun w => if_miss HMU.out ⟨#[83, 112, 108, 105, 116, 70, 114, 111, 109, 76, 101, 102, 116]⟩ w (by decide) (by decide)
          have m3 := fun w => if_miss HMU.out ⟨#[83, 112, 108, 105, 116, 70, 114, 111, 109, 82, 105, 103, 104, 116]⟩ w (by decide) (by decide)
          have m4 := fun w => if_miss HMU.out ⟨#[83, 108, 105, 99, 101, 70, 114, 111, 109, 76, 101, 102, 116]⟩ w (by decide) (by decide)
          have my := fun w => if_hit HMU.out ⟨#[83, 108, 105, 99, 101, 70, 114, 111, 109, 82, 105, 103, 104, 116]⟩ w (by decide)
          go_wp2_with fail
          with_reducible refine (m0 _).mono ?_
          rintro e w2 ⟨rfl, rfl⟩
          clear m0
          go_wp2_with fail
          with_reducible refine (m1 _).mono ?_
          rintro e w2 ⟨rfl, rfl⟩
          clear m1
          go_wp2_with fail
          with_reducible refine (m2 _).mono ?_
          rintro e w2 ⟨rfl, rfl⟩
          clear m2
          go_wp2_with fail
          with_reducible refine (m3 _).mono ?_
          rintro e w2 ⟨rfl, rfl⟩
          clear m3
          go_wp2_with fail
          with_reducible refine (m4 _).mono ?_
          rintro e w2 ⟨rfl, rfl⟩
          clear m4
          go_wp2_with fail
          with_reducible refine (my _).mono ?_
          rintro e w2 ⟨rfl, rfl⟩
          clear my
          go_wp2_with fail
          go_roundg (gk - 1)
          case measure => have := HGK.out; omega
          case rel => exact ⟨k + 1, by have := HGK.out; omega, by go_num, by rw [HF.out, HNE.out], HB⟩
        · as_aux_lemma =>
          have m0 := fun w => if_miss HMU.out ⟨#[80, 97, 114, 116, 105, 116, 105, 111, 110]⟩ w (by decide) (by decide)
          have m1 := fun w => if_miss HMU.out ⟨#[87, 105, 108, 100, 99, 97, 114, 100]⟩ w (by decide) (by decide)
          have m2 := fun w => if_miss HMU.out ⟨#[83, 112, 108, 105, 116, 70, 114, 111, 109, 76, 101, 102, 116]⟩ w (by decide) (by decide)
          have m3 := fun w => if_miss HMU.out ⟨#[83, 112, 108, 105, 116, 70, 114, 111, 109, 82, 105, 103, 104, 116]⟩ w (by decide) (by decide)
          have m4 := fun w => if_miss HMU.out ⟨#[83, 108, 105, 99, 101, 70, 114, 111, 109, 76, 101, 102, 116]⟩ w (by decide) (by decide)
          have m5 := fun w => if_miss HMU.out ⟨#[83, 108, 105, 99, 101, 70, 114, 111, 109, 82, 105, 103, 104, 116]⟩ w (by decide) (by decide)
          have my := fun w => if_hit HMU.out ⟨#[83, 112, 108, 105, 116]⟩ w (by decide)
          go_wp2_with fail
          with_reducible refine (m0 _).mono ?_
          rintro e w2 ⟨rfl, rfl⟩
          clear m0
          go_wp2_with fail
          with_reducible refine (m1 _).mono ?_
          rintro e w2 ⟨rfl, rfl⟩
          clear m1
          go_wp2_with fail
          with_reducible refine (m2 _).mono ?_
          rintro e w2 ⟨rfl, rfl⟩
          clear m2
          go_wp2_with fail
          with_reducible refine (m3 _).mono ?_
          rintro e w2 ⟨rfl, rfl⟩
          clear m3
          go_wp2_with fail
          with_reducible refine (m4 _).mono ?_
          rintro e w2 ⟨rfl, rfl⟩
          clear m4
          go_wp2_with fail
          with_reducible refine (m5 _).mono ?_
          rintro e w2 ⟨rfl, rfl⟩
          clear m5
          go_wp2_with fail
          with_reducible refine (my _).mono ?_
          rintro e w2 ⟨rfl, rfl⟩
          clear my
          go_wp2_with fail
          go_roundg (gk - 1)
          case measure => have := HGK.out; omega
          case rel => exact ⟨k + 1, by have := HGK.out; omega, by go_num, by rw [HF.out, HNE.out], HB⟩
        · as_aux_lemma =>
          have m0 := fun w => if_miss HMU.out ⟨#[80, 97, 114, 116, 105, 116, 105, 111, 110]⟩ w (by decide) (by decide)
          have m1 := fun w => if_miss HMU.out ⟨#[87, 105, 108, 100, 99, 97, 114, 100]⟩ w (by decide) (by decide)
          have m2 := fun w => if_miss HMU.out ⟨#[83, 112, 108, 105, 116, 70, 114, 111, 109, 76, 101, 102, 116]⟩ w (by decide) (by decide)
          have m3 := fun w => if_miss HMU.out ⟨#[83, 112, 108, 105, 116, 70, 114, 111, 109, 82, 105, 103, 104, 116]⟩ w (by decide) (by decide)
          have m4 := fun w => if_miss HMU.out ⟨#[83, 108, 105, 99, 101, 70, 114, 111, 109, 76, 101, 102, 116]⟩ w (by decide) (by decide)
          have m5 := fun w => if_miss HMU.out ⟨#[83, 108, 105, 99, 101, 70, 114, 111, 109, 82, 105, 103, 104, 116]⟩ w (by decide) (by decide)
          have m6 := fun w => if_miss HMU.out ⟨#[83, 112, 108, 105, 116]⟩ w (by decide) (by decide)
          have my := fun w => if_hit HMU.out ⟨#[76, 101, 102, 116]⟩ w (by decide)
          go_wp2_with fail
          with_reducible refine (m0 _).mono ?_
          rintro e w2 ⟨rfl, rfl⟩
          clear m0
          go_wp2_with fail
          with_reducible refine (m1 _).mono ?_
          rintro e w2 ⟨rfl, rfl⟩
          clear m1
          go_wp2_with fail
          with_reducible refine (m2 _).mono ?_
          rintro e w2 ⟨rfl, rfl⟩
          clear m2
          go_wp2_with fail
          with_reducible refine (m3 _).mono ?_
          rintro e w2 ⟨rfl, rfl⟩
          clear m3
          go_wp2_with fail
          with_reducible refine (m4 _).mono ?_
          rintro e w2 ⟨rfl, rfl⟩
          clear m4
          go_wp2_with fail
          with_reducible refine (m5 _).mono ?_
          rintro e w2 ⟨rfl, rfl⟩
          clear m5
          go_wp2_with fail
          with_reducible refine (m6 _).mono ?_
          rintro e w2 ⟨rfl, rfl⟩
          clear m6
          go_wp2_with fail
          with_reducible refine (my _).mono ?_
          rintro e w2 ⟨rfl, rfl⟩
          clear my
          go_wp2_with fail
          go_roundg (gk - 1)
          case measure => have := HGK.out; omega
          case rel => exact ⟨k + 1, by have := HGK.out; omega, by go_num, by rw [HF.out, HNE.out], HB⟩
        · as_aux_lemma =>
          have m0 := fun w => if_miss HMU.out ⟨#[80, 97, 114, 116, 105, 116, 105, 111, 110]⟩ w (by decide) (by decide)
          have m1 := fun w => if_miss HMU.out ⟨#[87, 105, 108, 100, 99, 97, 114, 100]⟩ w (by decide) (by decide)
          have m2 := fun w => if_miss HMU.out ⟨#[83, 112, 108, 105, 116, 70, 114, 111, 109, 76, 101, 102, 116]⟩ w (by decide) (by decide)
          have m3 := fun w => if_miss HMU.out ⟨#[83, 112, 108, 105, 116, 70, 114, 111, 109, 82, 105, 103, 104, 116]⟩ w (by decide) (by decide)
          have m4 := fun w => if_miss HMU.out ⟨#[83, 108, 105, 99, 101, 70, 114, 111, 109, 76, 101, 102, 116]⟩ w (by decide) (by decide)
          have m5 := fun w => if_miss HMU.out ⟨#[83, 108, 105, 99, 101, 70, 114, 111, 109, 82, 105, 103, 104, 116]⟩ w (by decide) (by decide)
          have m6 := fun w => if_miss HMU.out ⟨#[83, 112, 108, 105, 116]⟩ w (by decide) (by decide)
          have m7 := fun w => if_miss HMU.out ⟨#[76, 101, 102, 116]⟩ w (by decide) (by decide)
          have my := fun w => if_hit HMU.out ⟨#[82, 105, 103, 104, 116]⟩ w (by decide)
          go_wp2_with fail
          with_reducible refine (m0 _).mono ?_
          rintro e w2 ⟨rfl, rfl⟩
          clear m0
          go_wp2_with fail
          with_reducible refine (m1 _).mono ?_
          rintro e w2 ⟨rfl, rfl⟩
          clear m1
          go_wp2_with fail
          with_reducible refine (m2 _).mono ?_
          rintro e w2 ⟨rfl, rfl⟩
          clear m2
          go_wp2_with fail
          with_reducible refine (m3 _).mono ?_
          rintro e w2 ⟨rfl, rfl⟩
          clear m3
          go_wp2_with fail
          with_reducible refine (m4 _).mono ?_
          rintro e w2 ⟨rfl, rfl⟩
          clear m4
          go_wp2_with fail
          with_reducible refine (m5 _).mono ?_
          rintro e w2 ⟨rfl, rfl⟩
          clear m5
          go_wp2_with fail
          with_reducible refine (m6 _).mono ?_
          rintro e w2 ⟨rfl, rfl⟩
          clear m6
          go_wp2_with fail
          with_reducible refine (m7 _).mono ?_
          rintro e w2 ⟨rfl, rfl⟩
          clear m7
          go_wp2_with fail
          with_reducible refine (my _).mono ?_
          rintro e w2 ⟨rfl, rfl⟩
          clear my
          go_wp2_with fail
          go_roundg (gk - 1)
          case measure => have := HGK.out; omega
          case rel => exact ⟨k + 1, by have := HGK.out; omega, by go_num, by rw [HF.out, HNE.out], HB⟩
    · have hbw : Below w.heap.size w wr := HA.out.2.trans (HB.out.mono hsz)
      have h37 := HH.out.2.2.2 wr hbw
      have HW := Lib.hid hbw
      clear hbw
      go_wp2_with fail
      refine h37.mono ?_
      rintro e w2 ⟨p, rfl, hb2⟩
      have HB2 := Lib.hid (HW.out.trans (hb2.mono HW.out.size))
      clear hb2 h37
      go_wp2_with fail
      go_ret
      exact ⟨rfl, HB2.out⟩
end Go.Proofs.YtocfcajafkkhdaaDoor
