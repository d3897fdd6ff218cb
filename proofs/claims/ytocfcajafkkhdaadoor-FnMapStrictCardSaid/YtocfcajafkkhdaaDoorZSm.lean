/-
  isSubsetMatchTokenized and isSubsetMatch: a subject's tokens beside a source's.
-/
import Derived.Test.YtocfcajafkkhdaaDoorZG8
import Derived.Test.YtocfcajafkkhdaaDoorShelf
namespace Go.Proofs.YtocfcajafkkhdaaDoor
open Go.RowKit

/-- a word: not empty, and its first byte is no mark -/
def Wd (t : List UInt8) : Prop := ∃ c r, t = c :: r ∧ c ≠ 36 ∧ c ≠ 42 ∧ c ≠ 62 ∧ c ≠ 123
/-- a source's token -/
def Sk (t : List UInt8) : Prop := t = [42] ∨ t = [62] ∨ Wd t
/-- a subject is a source's -/
def mtc : List (List UInt8) → List (List UInt8) → Bool
  | [], [] => true
  | [], _ :: _ => false
  | _ :: _, [] => false
  | t :: r, u :: v => if u = [62] then true else if u = [42] ∨ t = u then mtc r v else false
theorem mtc_at (toks test : List (List UInt8)) (k : Nat) (h1 : k < toks.length) (h2 : k < test.length) :
    mtc (toks.drop k) (test.drop k) = if test.getD k [] = [62] then true else if test.getD k [] = [42] ∨ toks.getD k [] = test.getD k [] then mtc (toks.drop (k + 1)) (test.drop (k + 1)) else false := by
  rw [List.drop_eq_getElem_cons h1, List.drop_eq_getElem_cons h2, mtc]
  simp [List.getD, h1, h2]
def BoolPost (b : Bool) (w : World) (e : Ending) (w' : World) : Prop := e = .returned (.bool b) ∧ w = w'
theorem cmp_list : ∀ (a b : List UInt8), Lib.compareBytes a b = 0 ↔ a = b
  | [], [] => by simp [Lib.compareBytes]
  | [], _ :: _ => by simp [Lib.compareBytes]
  | _ :: _, [] => by simp [Lib.compareBytes]
  | a :: ra, b :: rb => by
    have ih := cmp_list ra rb
    unfold Lib.compareBytes
    by_cases h1 : a < b
    · simp only [if_pos h1]
      constructor
      · intro h; omega
      · intro h; injection h with h _; subst h; exact absurd h1 (by simp)
    · by_cases h2 : b < a
      · simp only [if_neg h1, if_pos h2]
        constructor
        · intro h; omega
        · intro h; injection h with h _; subst h; exact absurd h2 (by simp)
      · simp only [if_neg h1, if_neg h2]
        have e : a = b := UInt8.le_antisymm (UInt8.not_lt.1 h2) (UInt8.not_lt.1 h1)
        subst e
        rw [ih]
        simp
/-- a piece in bytes -/
theorem sv_bytes (t : List UInt8) : ∃ tb : ByteArray, sv t = .string tb ∧ tb.data.toList = t ∧ tb.size = t.length := ⟨⟨t.toArray⟩, rfl, rfl, bs_size t⟩
theorem first_of {tb : ByteArray} {c : UInt8} {r : List UInt8} (h : tb.data.toList = c :: r) : ∃ h0 : 0 < tb.size, tb[0] = c := by
  have h0 : 0 < tb.size := by rw [← K.bsize, h]; simp
  refine ⟨h0, ?_⟩
  have := get_at h0
  rw [h] at this
  simpa using this.symm
set_option maxHeartbeats 4000000 in
set_option maxRecDepth 100000 in
theorem subset_any (tg ug : Nat) (toks test : List (List UInt8)) (w : World) (h1 : toks.length ≤ 1000) (h2 : test.length ≤ 1000) (hl : K.Lies w (some ⟨tg, 0, none⟩) toks.length (fun j => (toks.map sv).getD j undef)) (hu : K.Lies w (some ⟨ug, 0, none⟩) test.length (fun j => (test.map sv).getD j undef))
    (ht : ∀ t ∈ toks, Wd t) (hs : ∀ t ∈ test, Sk t) : Calls Tryd.prog 42 #[.slice (some ⟨tg, 0, none⟩) toks.length 32, .slice (some ⟨ug, 0, none⟩) test.length 32] w (BoolPost (mtc toks test) w) := by
  have HL := Lib.hid (And.intro hl (And.intro hu (And.intro ht hs)))
  clear hl hu ht hs
  go_enter Tryd.func42, Tryd.ntmps42
  go_wp2_with fail
  go_loop [12] (fun i => ∃ k : Nat, k ≤ test.length ∧ i = .int .i64 k ∧ k ≤ toks.length ∧ Hid (mtc toks test = mtc (toks.drop k) (test.drop k))) (fun i => test.length - (intOf i).toNat)
  case atStart => exact ⟨0, by omega, rfl, by omega, Lib.hid rfl⟩
  case round =>
    obtain ⟨k, hk, rfl, hkt, HM⟩ := hrel
    by_cases hlt : k < test.length
    · by_cases hlt2 : k < toks.length
      · obtain ⟨tg', to', e1, _, hc1⟩ := HL.out.1 (by omega)
        injection e1 with e1
        injection e1 with e1 e2 _
        subst e1 e2
        obtain ⟨ug', uo', e1, _, hc2⟩ := HL.out.2.1 (by omega)
        injection e1 with e1
        injection e1 with e1 e2 _
        subst e1 e2
        have cT : w.cell? ⟨tg, k, none⟩ = some (sv (toks.getD k [])) := by
          have := hc1 k hlt2
          rw [Nat.zero_add] at this
          rw [this]; simp [List.getD, hlt2]
        have cU : w.cell? ⟨ug, k, none⟩ = some (sv (test.getD k [])) := by
          have := hc2 k hlt
          rw [Nat.zero_add] at this
          rw [this]; simp [List.getD, hlt]
        have hT := HL.out.2.2.1 (toks.getD k []) (by simp [List.getD, hlt2])
        have hU := HL.out.2.2.2 (test.getD k []) (by simp [List.getD, hlt])
        have hat := mtc_at toks test k hlt2 hlt
        rw [← HM.out] at hat
        have HAT := Lib.hid hat
        clear hc1 hc2 hat
        generalize toks.getD k [] = t at cT hT HAT
        generalize test.getD k [] = u at cU hU HAT
        obtain ⟨ta, hta, htl, hts⟩ := sv_bytes t
        rw [hta] at cT
        obtain ⟨c, r, htr, _, n42, n62, _⟩ := hT
        obtain ⟨p0, p1⟩ := first_of (htl.trans htr)
        have z0 : ((ta.size : Int) == 0) = false := by rw [beq_eq_false_iff_ne]; omega
        have a42 : (((ta[0].toNat : Nat) : Int) == 42) = false := ne_int (show ta[0] ≠ 42 from by rw [p1]; exact n42)
        have a62 : (((ta[0].toNat : Nat) : Int) == 62) = false := ne_int (show ta[0] ≠ 62 from by rw [p1]; exact n62)
        have HT := Lib.hid htl
        clear hta htl hts htr p1 n42 n62
        rcases hU with rfl | rfl | hU
        · have cU2 : w.cell? ⟨ug, k, none⟩ = some (.string ⟨#[42]⟩) := cU
          clear cU
          have HM2 := Lib.hid (show mtc toks test = mtc (toks.drop (k + 1)) (test.drop (k + 1)) from by rw [HAT.out, if_neg (by decide), if_pos (.inl rfl)])
          go_wp2_with fail
          go_round
          case rel => exact ⟨k + 1, by omega, by go_num, by omega, HM2⟩
          case measure => simp [intOf]; omega
        · have cU2 : w.cell? ⟨ug, k, none⟩ = some (.string ⟨#[62]⟩) := cU
          clear cU
          have HF := Lib.hid (show mtc toks test = true from by rw [HAT.out, if_pos rfl])
          go_wp2_with fail
          go_ret
          exact ⟨by rw [HF.out]; rfl, rfl⟩
        · obtain ⟨ua, hua, hul, hus⟩ := sv_bytes u
          rw [hua] at cU
          obtain ⟨c2, r2, hur, _, m42, m62, _⟩ := hU
          obtain ⟨p02, p12⟩ := first_of (hul.trans hur)
          have y0 : ((ua.size : Int) == 0) = false := by rw [beq_eq_false_iff_ne]; omega
          have b42 : (((ua[0].toNat : Nat) : Int) == 42) = false := ne_int (show ua[0] ≠ 42 from by rw [p12]; exact m42)
          have e42 : (((ua[0].toNat : Nat) : Int) != 42) = true := by simpa using b42
          have d42 : ¬ ((ua[0].toNat : Nat) : Int) = 42 := by simpa using b42
          have b62 : (((ua[0].toNat : Nat) : Int) == 62) = false := ne_int (show ua[0] ≠ 62 from by rw [p12]; exact m62)
          have hcm := Tryd.strings_Compare ta ua w
          have hq := cmp_list ta.data.toList ua.data.toList
          rw [HT.out, hul] at hq
          rw [HT.out, hul] at hcm
          have hne : ¬ u = [62] := by rintro rfl; injection hur with e _; exact m62 e.symm
          have hne2 : ¬ u = [42] := by rintro rfl; injection hur with e _; exact m42 e.symm
          have HNE := Lib.hid (And.intro hne hne2)
          clear hua hul hus hur p12 m42 m62 hne hne2
          by_cases htu : t = u
          · rw [hq.2 htu] at hcm
            have HM2 := Lib.hid (show mtc toks test = mtc (toks.drop (k + 1)) (test.drop (k + 1)) from by rw [HAT.out, if_neg HNE.out.1, if_pos (.inr htu)])
            clear hq htu
            go_wp2_with fail
            refine hcm.mono ?_
            rintro e w' ⟨rfl, rfl⟩
            clear hcm
            go_wp2_with fail
            go_round
            case rel => exact ⟨k + 1, by omega, by go_num, by omega, HM2⟩
            case measure => simp [intOf]; omega
          · have hz : ¬ Lib.compareBytes t u = 0 := fun e => htu (hq.1 e)
            have HTU := Lib.hid htu
            generalize Lib.compareBytes t u = z at hcm hz
            have hzb : (z != 0) = true := by simpa using hz
            have HF := Lib.hid (show mtc toks test = false from by rw [HAT.out, if_neg HNE.out.1, if_neg (by rintro (h | h); exact HNE.out.2 h; exact HTU.out h)])
            clear hq htu
            go_wp2_with fail
            refine hcm.mono ?_
            rintro e w' ⟨rfl, rfl⟩
            clear hcm
            go_wp2_with fail
            go_ret
            exact ⟨by rw [HF.out]; rfl, rfl⟩
      · obtain ⟨ug', uo', e1, _, hc2⟩ := HL.out.2.1 (by omega)
        injection e1 with e1
        injection e1 with e1 e2 _
        subst e1 e2
        have cU : w.cell? ⟨ug, k, none⟩ = some (sv (test.getD k [])) := by
          have := hc2 k hlt
          rw [Nat.zero_add] at this
          rw [this]; simp [List.getD, hlt]
        have HF := Lib.hid (show mtc toks test = false from by rw [HM.out, List.drop_of_length_le (by omega), List.drop_eq_getElem_cons hlt]; rfl)
        clear hc2
        obtain ⟨ua, hua, hul, hus⟩ := sv_bytes (test.getD k [])
        rw [hua] at cU
        clear hua hul hus
        go_wp2_with fail
        go_ret
        exact ⟨by rw [HF.out]; rfl, rfl⟩
    · obtain rfl : k = test.length := by omega
      have hF : mtc toks test = decide (toks.length = test.length) := by
        rw [HM.out, List.drop_length]
        by_cases h : toks.length = test.length
        · rw [decide_eq_true h, ← h, List.drop_length]; rfl
        · rw [decide_eq_false h, List.drop_eq_getElem_cons (by omega)]; rfl
      have HF := Lib.hid hF
      clear hF
      by_cases hle : toks.length = test.length
      · have hb : ((toks.length : Int) == (test.length : Int)) = true := by rw [hle]; simp
        have HE := Lib.hid hle
        clear hle
        go_wp2_with fail
        go_ret
        exact ⟨by rw [HF.out, decide_eq_true HE.out]; first | rfl | (rw [hb]), rfl⟩
      · have hb : ((toks.length : Int) == (test.length : Int)) = false := by rw [beq_eq_false_iff_ne]; omega
        have HE := Lib.hid hle
        clear hle
        go_wp2_with fail
        go_ret
        exact ⟨by rw [HF.out, decide_eq_false HE.out]; first | rfl | (rw [hb]), rfl⟩
end Go.Proofs.YtocfcajafkkhdaaDoor
