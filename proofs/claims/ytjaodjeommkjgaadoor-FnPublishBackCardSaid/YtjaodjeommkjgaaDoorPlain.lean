/-
  spec.MQTTPlain: where it says yes, each byte of the text is a letter, a digit, a hyphen, an underscore (in filters + or #, too), or a slash between two bytes that are none. For every text of at most 1,000 bytes.
-/
import Derived.Test.YtjaodjeommkjgaaDoorProg
import Derived.Test.YtjaodjeommkjgaaDoorKit
import Derived.Lib.Strings
namespace Go.Proofs.YtjaodjeommkjgaaDoor
open Go.RowKit

/-- letters, digits, hyphens, underscores; in filters + and #, too -/
def good (filter : Bool) (c : UInt8) : Prop :=
  (97 ≤ c.toNat ∧ c.toNat ≤ 122) ∨ (65 ≤ c.toNat ∧ c.toNat ≤ 90) ∨ (48 ≤ c.toNat ∧ c.toNat ≤ 57) ∨ c.toNat = 45 ∨ c.toNat = 95 ∨ (filter = true ∧ (c.toNat = 43 ∨ c.toNat = 35))
def at_ (s : ByteArray) (k : Nat) : UInt8 := s.data.toList.getD k 0
def PlainAt (s : ByteArray) (filter : Bool) (k : Nat) : Prop :=
  good filter (at_ s k) ∨ ((at_ s k).toNat = 47 ∧ 0 < k ∧ k + 1 < s.size ∧ (at_ s (k - 1)).toNat ≠ 47 ∧ (at_ s (k + 1)).toNat ≠ 47)
def Plain (s : ByteArray) (filter : Bool) : Prop := 0 < s.size ∧ ∀ k, k < s.size → PlainAt s filter k

theorem at_get (s : ByteArray) (k : Nat) (h : k < s.size) : s[k] = at_ s k := by
  unfold at_
  rw [List.getD, List.getElem?_eq_getElem (by rw [K.bsize]; exact h)]
  rfl
theorem at_ext (s : ByteArray) (a b k : Nat) (h : k < b - a) (h2 : k < (s.extract a b).size) : (s.extract a b)[k] = at_ s (a + k) := by
  rw [at_get]
  unfold at_
  rw [Lib.extract_data]
  simp [List.getD, h]

def Inv (s : ByteArray) (filter : Bool) (fr i : Nat) : Prop :=
  fr ≤ i ∧ (∀ k, fr ≤ k → k < i → (at_ s k).toNat ≠ 47) ∧ (∀ k, k + 1 < fr → PlainAt s filter k) ∧
  (0 < fr → fr ≤ s.size → (at_ s (fr - 1)).toNat = 47 ∧ 1 < fr ∧ (at_ s (fr - 2)).toNat ≠ 47)

theorem inv_next {s : ByteArray} {filter : Bool} {fr i : Nat} (h : Inv s filter fr i) (hne : (at_ s i).toNat ≠ 47) : Inv s filter fr (i + 1) := by
  obtain ⟨h1, h2, h3, h4⟩ := h
  refine ⟨by omega, fun k hk1 hk2 => ?_, h3, h4⟩
  by_cases e : k = i
  · subst e; exact hne
  · exact h2 k hk1 (by omega)

theorem inv_level {s : ByteArray} {filter : Bool} {fr i : Nat} (h : Inv s filter fr i) (hi : i ≤ s.size) (hne : fr < i) (hg : ∀ k, fr ≤ k → k < i → good filter (at_ s k))
    (hs : i < s.size → (at_ s i).toNat = 47) : Inv s filter (i + 1) (i + 1) := by
  obtain ⟨h1, h2, h3, h4⟩ := h
  refine ⟨Nat.le_refl _, fun k hk1 hk2 => by omega, fun k hk => ?_, fun _ hsz => ?_⟩
  · by_cases e1 : k + 1 < fr
    · exact h3 k e1
    · by_cases e2 : k + 1 = fr
      · obtain ⟨a, b, c⟩ := h4 (by omega) (by omega)
        refine Or.inr ⟨by rw [show k = fr - 1 from by omega]; exact a, by omega, by omega, by rw [show k - 1 = fr - 2 from by omega]; exact c, by rw [e2]; exact h2 fr (Nat.le_refl _) hne⟩
      · exact Or.inl (hg k (by omega) (by omega))
  · refine ⟨by rw [show i + 1 - 1 = i from by omega]; exact hs (by omega), by omega, ?_⟩
    rw [show i + 1 - 2 = i - 1 from by omega]
    exact h2 (i - 1) (by omega) (by omega)

/-- spec.MQTTPlain: where it says yes. -/
def PlainPost (s : ByteArray) (filter : Bool) (w : World) (e : Ending) (w' : World) : Prop := ∃ b : Bool, e = .returned (.bool b) ∧ w = w' ∧ (b = true → Plain s filter)
theorem PlainPost.no {s : ByteArray} {filter : Bool} {w : World} : PlainPost s filter w (.returned (.bool false)) w := ⟨false, rfl, rfl, fun h => by cases h⟩

theorem ext_len (s : ByteArray) (a b : Nat) (hb : b ≤ s.size) : (s.extract a b).data.toList.length = b - a := by
  rw [K.bsize, ByteArray.size_extract]; omega
theorem ext_ne (s : ByteArray) (a b : Nat) (h : a < b) (hb : b ≤ s.size) : (s.extract a b).toList.isEmpty = false := by
  rw [Lib.toList_data]
  have := ext_len s a b hb
  cases e : (s.extract a b).data.toList with
  | nil => rw [e] at this; simp at this; omega
  | cons x l => rfl
theorem ext_nil (s : ByteArray) (a b : Nat) (h : b ≤ a) : (s.extract a b).toList.isEmpty = true := by
  rw [Lib.toList_data, Lib.extract_data, show b - a = 0 from by omega]
  rfl
theorem good_one (s : ByteArray) (a b k : Nat) (hb : b ≤ s.size) (h1 : a ≤ k) (h2 : k < b) (h : (s.extract a b).toList = [43] ∨ (s.extract a b).toList = [35]) : good true (at_ s k) := by
  have hl := ext_len s a b hb
  have hk := at_ext s a b (k - a) (by omega) (by rw [← K.bsize, hl]; omega)
  rw [show a + (k - a) = k from by omega] at hk
  rw [← hk]
  rw [Lib.toList_data] at h
  have he : (s.extract a b)[k - a]'(by rw [← K.bsize, hl]; omega) = (s.extract a b).data.toList[k - a]'(by rw [hl]; omega) := rfl
  rw [he]
  have h0 : k - a = 0 := by
    rcases h with h | h <;> · rw [h] at hl; simp at hl; omega
  rcases h with h | h
  · simp only [h0, h]; exact Or.inr (Or.inr (Or.inr (Or.inr (Or.inr ⟨rfl, Or.inl rfl⟩))))
  · simp only [h0, h]; exact Or.inr (Or.inr (Or.inr (Or.inr (Or.inr ⟨rfl, Or.inr rfl⟩))))

theorem byte_cases (c : UInt8) :
    ((97 ≤ c.toNat ∧ c.toNat ≤ 122) ∨ (65 ≤ c.toNat ∧ c.toNat ≤ 90) ∨ (48 ≤ c.toNat ∧ c.toNat ≤ 57) ∨ (45 ≤ c.toNat ∧ c.toNat ≤ 45) ∨ (95 ≤ c.toNat ∧ c.toNat ≤ 95)) ∨
    (c.toNat < 45 ∨ (45 < c.toNat ∧ c.toNat < 48) ∨ (57 < c.toNat ∧ c.toNat < 65) ∨ (90 < c.toNat ∧ c.toNat < 95) ∨ (95 < c.toNat ∧ c.toNat < 97) ∨ 122 < c.toNat) := by omega
theorem good_of (f : Bool) (c : UInt8) (h : (97 ≤ c.toNat ∧ c.toNat ≤ 122) ∨ (65 ≤ c.toNat ∧ c.toNat ≤ 90) ∨ (48 ≤ c.toNat ∧ c.toNat ≤ 57) ∨ c.toNat = 45 ∨ c.toNat = 95) : good f c := by
  rcases h with h | h | h | h | h
  · exact Or.inl h
  · exact Or.inr (Or.inl h)
  · exact Or.inr (Or.inr (Or.inl h))
  · exact Or.inr (Or.inr (Or.inr (Or.inl h)))
  · exact Or.inr (Or.inr (Or.inr (Or.inr (Or.inl h))))

theorem not35 (s : ByteArray) (fr k : Nat) (h : ¬ ((s.extract fr k).toList = [35] ∧ k = s.size)) :
    ((s.extract fr k).toList == [35]) = false ∨ (((s.extract fr k).toList == [35]) = true ∧ ((k : Int) == (s.size : Int)) = false) := by
  cases e : ((s.extract fr k).toList == [35])
  · exact Or.inl rfl
  · have e2 : (s.extract fr k).toList = [35] := by simpa using e
    have e3 : k ≠ s.size := fun h2 => h ⟨e2, h2⟩
    exact Or.inr ⟨rfl, by simp; omega⟩

set_option maxHeartbeats 4000000 in
set_option maxRecDepth 100000 in
theorem plain_any (s : ByteArray) (filter : Bool) (w : World) (hs : s.size ≤ 1000) : Calls Tryd.prog 14 #[.string s, .bool filter] w (PlainPost s filter w) := by
  go_enter Tryd.func14, Tryd.ntmps14
  go_wp2_with fail
  go_loopg [5, 6] (s.size + 2) (fun gk f i wr => ∃ (fr k : Nat), gk + k = s.size + 2 ∧ w = wr ∧ f = .int .i64 fr ∧ i = .int .i64 k ∧ k ≤ s.size + 1 ∧ Inv s filter fr k ∧ (k = s.size + 1 → fr = s.size + 1 ∧ 0 < s.size))
  case atStart => exact ⟨0, 0, by omega, rfl, rfl, rfl, by omega, ⟨Nat.le_refl _, fun k _ h => by omega, fun k h => by omega, fun h => by omega⟩, fun h => by omega⟩
  case round =>
    obtain ⟨fr, k, hk1, rfl, rfl, rfl, hk, hinv, hend⟩ := hrel
    have HK := Lib.hid hk1
    have HE := Lib.hid hend
    have HI := Lib.hid hinv
    have hfr := hinv.1
    clear hk1 hend hinv
    by_cases hle : k ≤ s.size
    · by_cases hlt : k < s.size
      · have hat := at_get s k hlt
        obtain ⟨b, hb⟩ : ∃ b, b = at_ s k := ⟨_, rfl⟩
        rw [← hb] at hat
        have HB := Lib.hid hb
        have hb8 := b.toNat_lt
        clear hb
        by_cases h47 : b.toNat = 47
        · have hc : (((b.toNat : Nat) : Int) != 47) = false := by simp; omega
          have H47 := Lib.hid h47
          clear h47
          by_cases hfk : fr < k
          · have hne : (s.extract fr k).toList.isEmpty = false := ext_ne s fr k hfk (by omega)
            by_cases hfl : filter = true
            · subst hfl
              by_cases h43 : (s.extract fr k).toList = [43]
              · have H43 := Lib.hid h43
                have h43b : ((s.extract fr k).toList == [43]) = true := by rw [h43]; rfl
                clear h43
                go_wp2_with fail
                go_roundg (s.size + 1 - k)
                case measure => have := HK.out; omega
                case rel => exact ⟨k + 1, k + 1, by omega, rfl, by go_num, by go_num, by omega, inv_level HI.out (by omega) hfk (fun q h1 h2 => good_one s fr k q (by omega) h1 h2 (Or.inl H43.out)) (fun _ => by rw [← HB.out]; exact H47.out), fun h => ⟨by omega, by omega⟩⟩
              · have h43b : ((s.extract fr k).toList == [43]) = false := by simp [h43]
                clear h43
                by_cases h35 : (s.extract fr k).toList = [35] ∧ k = s.size
                · have H35 := Lib.hid h35
                  have h35b : ((s.extract fr k).toList == [35]) = true := by rw [h35.1]; rfl
                  have h35c : ((k : Int) == (s.size : Int)) = true := by simp [h35.2]
                  clear h35
                  go_wp2_with fail
                  go_roundg (s.size + 1 - k)
                  case measure => have := HK.out; omega
                  case rel => exact ⟨k + 1, k + 1, by omega, rfl, by go_num, by go_num, by omega, inv_level HI.out (by omega) hfk (fun q h1 h2 => good_one s fr k q (by omega) h1 h2 (Or.inr H35.out.1)) (fun _ => by rw [← HB.out]; exact H47.out), fun h => ⟨by omega, by omega⟩⟩
                · have h35d := not35 s fr k h35
                  clear h35
                  rcases h35d with h35d | ⟨h35d, h35e⟩
                  all_goals
                    go_wp2_with fail
                    have hl1 : (s.extract fr k).size = k - fr := by rw [← K.bsize]; exact ext_len s fr k (by omega)
                    have hl2 : ∀ j (h : j < (s.extract fr k).size), (s.extract fr k)[j] = at_ s (fr + j) := fun j h => at_ext s fr k j (by omega) h
                    have HL2 := Lib.hid hl2
                    have hl3 : k - fr ≤ (s.extract fr k).size := by omega
                    have hl4 : (s.extract fr k).size ≤ k - fr := by omega
                    clear hl1 hl2
                    clear hne
                    try clear h43b
                    try clear h35d
                    generalize s.extract fr k = l at *
                    go_loopg [8] (k - fr + 1) (fun gj jv wr2 => ∃ j : Nat, gj + j = k - fr + 1 ∧ w = wr2 ∧ jv = .int .i64 j ∧ j ≤ k - fr ∧ ∀ q, q < j → good true (at_ s (fr + q)))
                    case atStart => exact ⟨0, by omega, rfl, rfl, by omega, fun q h => by omega⟩
                    case round =>
                      obtain ⟨j, hj1, rfl, rfl, hj, hgood⟩ := hrel
                      have HJ := Lib.hid hj1
                      have HG := Lib.hid hgood
                      clear hj1 hgood
                      by_cases hjl : j < k - fr
                      · have hj3 : j < l.size := by omega
                        have hat2 := HL2.out j hj3
                        obtain ⟨c, hc2⟩ : ∃ c, c = at_ s (fr + j) := ⟨_, rfl⟩
                        rw [← hc2] at hat2
                        have HC2 := Lib.hid hc2
                        have hc8 := c.toNat_lt
                        clear hc2
                        rcases byte_cases c with h | h
                        · rcases h with h | h | h | h | h
                          · go_wp2_with fail
                            go_roundg (k - fr - j)
                            case measure => have := HJ.out; omega
                            case rel =>
                              refine ⟨j + 1, by omega, rfl, by go_num, by omega, fun q hq => ?_⟩
                              by_cases e : q = j
                              · rw [e, ← HC2.out]; exact good_of _ c (by omega)
                              · exact HG.out q (by omega)
                          · go_wp2_with fail
                            go_roundg (k - fr - j)
                            case measure => have := HJ.out; omega
                            case rel =>
                              refine ⟨j + 1, by omega, rfl, by go_num, by omega, fun q hq => ?_⟩
                              by_cases e : q = j
                              · rw [e, ← HC2.out]; exact good_of _ c (by omega)
                              · exact HG.out q (by omega)
                          · go_wp2_with fail
                            go_roundg (k - fr - j)
                            case measure => have := HJ.out; omega
                            case rel =>
                              refine ⟨j + 1, by omega, rfl, by go_num, by omega, fun q hq => ?_⟩
                              by_cases e : q = j
                              · rw [e, ← HC2.out]; exact good_of _ c (by omega)
                              · exact HG.out q (by omega)
                          · have e45 : ((c.toNat : Int) == 45) = true := by simp; omega
                            go_wp2_with fail
                            go_roundg (k - fr - j)
                            case measure => have := HJ.out; omega
                            case rel =>
                              refine ⟨j + 1, by omega, rfl, by go_num, by omega, fun q hq => ?_⟩
                              by_cases e : q = j
                              · rw [e, ← HC2.out]; exact good_of _ c (by omega)
                              · exact HG.out q (by omega)
                          · have e45 : ((c.toNat : Int) == 45) = false := by simp; omega
                            have e95 : ((c.toNat : Int) == 95) = true := by simp; omega
                            have d57 : decide ((c.toNat : Int) ≤ 57) = false := by simp; omega
                            have d90 : decide ((c.toNat : Int) ≤ 90) = false := by simp; omega
                            go_wp2_with fail
                            go_roundg (k - fr - j)
                            case measure => have := HJ.out; omega
                            case rel =>
                              refine ⟨j + 1, by omega, rfl, by go_num, by omega, fun q hq => ?_⟩
                              by_cases e : q = j
                              · rw [e, ← HC2.out]; exact good_of _ c (by omega)
                              · exact HG.out q (by omega)
                        · have e45 : ((c.toNat : Int) == 45) = false := by simp; omega
                          have e95 : ((c.toNat : Int) == 95) = false := by simp; omega
                          rcases h with h | h | h | h | h | h
                          · go_wp2_with fail
                            go_ret
                            exact PlainPost.no
                          · go_wp2_with fail
                            go_ret
                            exact PlainPost.no
                          · have d57 : decide ((c.toNat : Int) ≤ 57) = false := by simp; omega
                            go_wp2_with fail
                            go_ret
                            exact PlainPost.no
                          · have d57 : decide ((c.toNat : Int) ≤ 57) = false := by simp; omega
                            have d90 : decide ((c.toNat : Int) ≤ 90) = false := by simp; omega
                            go_wp2_with fail
                            go_ret
                            exact PlainPost.no
                          · have d57 : decide ((c.toNat : Int) ≤ 57) = false := by simp; omega
                            have d90 : decide ((c.toNat : Int) ≤ 90) = false := by simp; omega
                            go_wp2_with fail
                            go_ret
                            exact PlainPost.no
                          · have d57 : decide ((c.toNat : Int) ≤ 57) = false := by simp; omega
                            have d90 : decide ((c.toNat : Int) ≤ 90) = false := by simp; omega
                            have d122 : decide ((c.toNat : Int) ≤ 122) = false := by simp; omega
                            go_wp2_with fail
                            go_ret
                            exact PlainPost.no
                      · go_wp2_with fail
                        go_roundg (s.size + 1 - k)
                        case measure => have := HK.out; omega
                        case rel =>
                          refine ⟨k + 1, k + 1, by omega, rfl, by go_num, by go_num, by omega, inv_level HI.out (by omega) hfk (fun q h1 h2 => ?_) (fun _ => by rw [← HB.out]; exact H47.out), fun h => ⟨by omega, by omega⟩⟩
                          have := HG.out (q - fr) (by omega)
                          rwa [show fr + (q - fr) = q from by omega] at this
            · have hfl2 : filter = false := by simpa using hfl
              subst hfl2
              clear hfl
              go_wp2_with fail
              have hl1 : (s.extract fr k).size = k - fr := by rw [← K.bsize]; exact ext_len s fr k (by omega)
              have hl2 : ∀ j (h : j < (s.extract fr k).size), (s.extract fr k)[j] = at_ s (fr + j) := fun j h => at_ext s fr k j (by omega) h
              have HL2 := Lib.hid hl2
              have hl3 : k - fr ≤ (s.extract fr k).size := by omega
              have hl4 : (s.extract fr k).size ≤ k - fr := by omega
              clear hl1 hl2
              clear hne
              try clear h43b
              try clear h35d
              generalize s.extract fr k = l at *
              go_loopg [8] (k - fr + 1) (fun gj jv wr2 => ∃ j : Nat, gj + j = k - fr + 1 ∧ w = wr2 ∧ jv = .int .i64 j ∧ j ≤ k - fr ∧ ∀ q, q < j → good false (at_ s (fr + q)))
              case atStart => exact ⟨0, by omega, rfl, rfl, by omega, fun q h => by omega⟩
              case round =>
                obtain ⟨j, hj1, rfl, rfl, hj, hgood⟩ := hrel
                have HJ := Lib.hid hj1
                have HG := Lib.hid hgood
                clear hj1 hgood
                by_cases hjl : j < k - fr
                · have hj3 : j < l.size := by omega
                  have hat2 := HL2.out j hj3
                  obtain ⟨c, hc2⟩ : ∃ c, c = at_ s (fr + j) := ⟨_, rfl⟩
                  rw [← hc2] at hat2
                  have HC2 := Lib.hid hc2
                  have hc8 := c.toNat_lt
                  clear hc2
                  rcases byte_cases c with h | h
                  · rcases h with h | h | h | h | h
                    · go_wp2_with fail
                      go_roundg (k - fr - j)
                      case measure => have := HJ.out; omega
                      case rel =>
                        refine ⟨j + 1, by omega, rfl, by go_num, by omega, fun q hq => ?_⟩
                        by_cases e : q = j
                        · rw [e, ← HC2.out]; exact good_of _ c (by omega)
                        · exact HG.out q (by omega)
                    · go_wp2_with fail
                      go_roundg (k - fr - j)
                      case measure => have := HJ.out; omega
                      case rel =>
                        refine ⟨j + 1, by omega, rfl, by go_num, by omega, fun q hq => ?_⟩
                        by_cases e : q = j
                        · rw [e, ← HC2.out]; exact good_of _ c (by omega)
                        · exact HG.out q (by omega)
                    · go_wp2_with fail
                      go_roundg (k - fr - j)
                      case measure => have := HJ.out; omega
                      case rel =>
                        refine ⟨j + 1, by omega, rfl, by go_num, by omega, fun q hq => ?_⟩
                        by_cases e : q = j
                        · rw [e, ← HC2.out]; exact good_of _ c (by omega)
                        · exact HG.out q (by omega)
                    · have e45 : ((c.toNat : Int) == 45) = true := by simp; omega
                      go_wp2_with fail
                      go_roundg (k - fr - j)
                      case measure => have := HJ.out; omega
                      case rel =>
                        refine ⟨j + 1, by omega, rfl, by go_num, by omega, fun q hq => ?_⟩
                        by_cases e : q = j
                        · rw [e, ← HC2.out]; exact good_of _ c (by omega)
                        · exact HG.out q (by omega)
                    · have e45 : ((c.toNat : Int) == 45) = false := by simp; omega
                      have e95 : ((c.toNat : Int) == 95) = true := by simp; omega
                      have d57 : decide ((c.toNat : Int) ≤ 57) = false := by simp; omega
                      have d90 : decide ((c.toNat : Int) ≤ 90) = false := by simp; omega
                      go_wp2_with fail
                      go_roundg (k - fr - j)
                      case measure => have := HJ.out; omega
                      case rel =>
                        refine ⟨j + 1, by omega, rfl, by go_num, by omega, fun q hq => ?_⟩
                        by_cases e : q = j
                        · rw [e, ← HC2.out]; exact good_of _ c (by omega)
                        · exact HG.out q (by omega)
                  · have e45 : ((c.toNat : Int) == 45) = false := by simp; omega
                    have e95 : ((c.toNat : Int) == 95) = false := by simp; omega
                    rcases h with h | h | h | h | h | h
                    · go_wp2_with fail
                      go_ret
                      exact PlainPost.no
                    · go_wp2_with fail
                      go_ret
                      exact PlainPost.no
                    · have d57 : decide ((c.toNat : Int) ≤ 57) = false := by simp; omega
                      go_wp2_with fail
                      go_ret
                      exact PlainPost.no
                    · have d57 : decide ((c.toNat : Int) ≤ 57) = false := by simp; omega
                      have d90 : decide ((c.toNat : Int) ≤ 90) = false := by simp; omega
                      go_wp2_with fail
                      go_ret
                      exact PlainPost.no
                    · have d57 : decide ((c.toNat : Int) ≤ 57) = false := by simp; omega
                      have d90 : decide ((c.toNat : Int) ≤ 90) = false := by simp; omega
                      go_wp2_with fail
                      go_ret
                      exact PlainPost.no
                    · have d57 : decide ((c.toNat : Int) ≤ 57) = false := by simp; omega
                      have d90 : decide ((c.toNat : Int) ≤ 90) = false := by simp; omega
                      have d122 : decide ((c.toNat : Int) ≤ 122) = false := by simp; omega
                      go_wp2_with fail
                      go_ret
                      exact PlainPost.no
                · go_wp2_with fail
                  go_roundg (s.size + 1 - k)
                  case measure => have := HK.out; omega
                  case rel =>
                    refine ⟨k + 1, k + 1, by omega, rfl, by go_num, by go_num, by omega, inv_level HI.out (by omega) hfk (fun q h1 h2 => ?_) (fun _ => by rw [← HB.out]; exact H47.out), fun h => ⟨by omega, by omega⟩⟩
                    have := HG.out (q - fr) (by omega)
                    rwa [show fr + (q - fr) = q from by omega] at this
          · have hne : (s.extract fr k).toList.isEmpty = true := ext_nil s fr k (by omega)
            go_wp2_with fail
            go_ret
            exact PlainPost.no
        · have hc : (((b.toNat : Nat) : Int) != 47) = true := by simp; omega
          have H47 := Lib.hid h47
          clear h47
          go_wp2_with fail
          go_roundg (s.size + 1 - k)
          case measure => have := HK.out; omega
          case rel => exact ⟨fr, k + 1, by omega, rfl, rfl, by go_num, by omega, inv_next HI.out (by rw [← HB.out]; exact H47.out), fun h => by omega⟩
      · have hlt2 : s.size ≤ k := by omega
        by_cases hfk : fr < k
        · have hne : (s.extract fr k).toList.isEmpty = false := ext_ne s fr k hfk (by omega)
          by_cases hfl : filter = true
          · subst hfl
            by_cases h43 : (s.extract fr k).toList = [43]
            · have H43 := Lib.hid h43
              have h43b : ((s.extract fr k).toList == [43]) = true := by rw [h43]; rfl
              clear h43
              go_wp2_with fail
              go_roundg (s.size + 1 - k)
              case measure => have := HK.out; omega
              case rel => exact ⟨k + 1, k + 1, by omega, rfl, by go_num, by go_num, by omega, inv_level HI.out (by omega) hfk (fun q h1 h2 => good_one s fr k q (by omega) h1 h2 (Or.inl H43.out)) (fun h => by omega), fun h => ⟨by omega, by omega⟩⟩
            · have h43b : ((s.extract fr k).toList == [43]) = false := by simp [h43]
              clear h43
              by_cases h35 : (s.extract fr k).toList = [35] ∧ k = s.size
              · have H35 := Lib.hid h35
                have h35b : ((s.extract fr k).toList == [35]) = true := by rw [h35.1]; rfl
                have h35c : ((k : Int) == (s.size : Int)) = true := by simp [h35.2]
                clear h35
                go_wp2_with fail
                go_roundg (s.size + 1 - k)
                case measure => have := HK.out; omega
                case rel => exact ⟨k + 1, k + 1, by omega, rfl, by go_num, by go_num, by omega, inv_level HI.out (by omega) hfk (fun q h1 h2 => good_one s fr k q (by omega) h1 h2 (Or.inr H35.out.1)) (fun h => by omega), fun h => ⟨by omega, by omega⟩⟩
              · have h35d := not35 s fr k h35
                clear h35
                rcases h35d with h35d | ⟨h35d, h35e⟩
                all_goals
                  go_wp2_with fail
                  have hl1 : (s.extract fr k).size = k - fr := by rw [← K.bsize]; exact ext_len s fr k (by omega)
                  have hl2 : ∀ j (h : j < (s.extract fr k).size), (s.extract fr k)[j] = at_ s (fr + j) := fun j h => at_ext s fr k j (by omega) h
                  have HL2 := Lib.hid hl2
                  have hl3 : k - fr ≤ (s.extract fr k).size := by omega
                  have hl4 : (s.extract fr k).size ≤ k - fr := by omega
                  clear hl1 hl2
                  clear hne
                  try clear h43b
                  try clear h35d
                  generalize s.extract fr k = l at *
                  go_loopg [8] (k - fr + 1) (fun gj jv wr2 => ∃ j : Nat, gj + j = k - fr + 1 ∧ w = wr2 ∧ jv = .int .i64 j ∧ j ≤ k - fr ∧ ∀ q, q < j → good true (at_ s (fr + q)))
                  case atStart => exact ⟨0, by omega, rfl, rfl, by omega, fun q h => by omega⟩
                  case round =>
                    obtain ⟨j, hj1, rfl, rfl, hj, hgood⟩ := hrel
                    have HJ := Lib.hid hj1
                    have HG := Lib.hid hgood
                    clear hj1 hgood
                    by_cases hjl : j < k - fr
                    · have hj3 : j < l.size := by omega
                      have hat2 := HL2.out j hj3
                      obtain ⟨c, hc2⟩ : ∃ c, c = at_ s (fr + j) := ⟨_, rfl⟩
                      rw [← hc2] at hat2
                      have HC2 := Lib.hid hc2
                      have hc8 := c.toNat_lt
                      clear hc2
                      rcases byte_cases c with h | h
                      · rcases h with h | h | h | h | h
                        · go_wp2_with fail
                          go_roundg (k - fr - j)
                          case measure => have := HJ.out; omega
                          case rel =>
                            refine ⟨j + 1, by omega, rfl, by go_num, by omega, fun q hq => ?_⟩
                            by_cases e : q = j
                            · rw [e, ← HC2.out]; exact good_of _ c (by omega)
                            · exact HG.out q (by omega)
                        · go_wp2_with fail
                          go_roundg (k - fr - j)
                          case measure => have := HJ.out; omega
                          case rel =>
                            refine ⟨j + 1, by omega, rfl, by go_num, by omega, fun q hq => ?_⟩
                            by_cases e : q = j
                            · rw [e, ← HC2.out]; exact good_of _ c (by omega)
                            · exact HG.out q (by omega)
                        · go_wp2_with fail
                          go_roundg (k - fr - j)
                          case measure => have := HJ.out; omega
                          case rel =>
                            refine ⟨j + 1, by omega, rfl, by go_num, by omega, fun q hq => ?_⟩
                            by_cases e : q = j
                            · rw [e, ← HC2.out]; exact good_of _ c (by omega)
                            · exact HG.out q (by omega)
                        · have e45 : ((c.toNat : Int) == 45) = true := by simp; omega
                          go_wp2_with fail
                          go_roundg (k - fr - j)
                          case measure => have := HJ.out; omega
                          case rel =>
                            refine ⟨j + 1, by omega, rfl, by go_num, by omega, fun q hq => ?_⟩
                            by_cases e : q = j
                            · rw [e, ← HC2.out]; exact good_of _ c (by omega)
                            · exact HG.out q (by omega)
                        · have e45 : ((c.toNat : Int) == 45) = false := by simp; omega
                          have e95 : ((c.toNat : Int) == 95) = true := by simp; omega
                          have d57 : decide ((c.toNat : Int) ≤ 57) = false := by simp; omega
                          have d90 : decide ((c.toNat : Int) ≤ 90) = false := by simp; omega
                          go_wp2_with fail
                          go_roundg (k - fr - j)
                          case measure => have := HJ.out; omega
                          case rel =>
                            refine ⟨j + 1, by omega, rfl, by go_num, by omega, fun q hq => ?_⟩
                            by_cases e : q = j
                            · rw [e, ← HC2.out]; exact good_of _ c (by omega)
                            · exact HG.out q (by omega)
                      · have e45 : ((c.toNat : Int) == 45) = false := by simp; omega
                        have e95 : ((c.toNat : Int) == 95) = false := by simp; omega
                        rcases h with h | h | h | h | h | h
                        · go_wp2_with fail
                          go_ret
                          exact PlainPost.no
                        · go_wp2_with fail
                          go_ret
                          exact PlainPost.no
                        · have d57 : decide ((c.toNat : Int) ≤ 57) = false := by simp; omega
                          go_wp2_with fail
                          go_ret
                          exact PlainPost.no
                        · have d57 : decide ((c.toNat : Int) ≤ 57) = false := by simp; omega
                          have d90 : decide ((c.toNat : Int) ≤ 90) = false := by simp; omega
                          go_wp2_with fail
                          go_ret
                          exact PlainPost.no
                        · have d57 : decide ((c.toNat : Int) ≤ 57) = false := by simp; omega
                          have d90 : decide ((c.toNat : Int) ≤ 90) = false := by simp; omega
                          go_wp2_with fail
                          go_ret
                          exact PlainPost.no
                        · have d57 : decide ((c.toNat : Int) ≤ 57) = false := by simp; omega
                          have d90 : decide ((c.toNat : Int) ≤ 90) = false := by simp; omega
                          have d122 : decide ((c.toNat : Int) ≤ 122) = false := by simp; omega
                          go_wp2_with fail
                          go_ret
                          exact PlainPost.no
                    · go_wp2_with fail
                      go_roundg (s.size + 1 - k)
                      case measure => have := HK.out; omega
                      case rel =>
                        refine ⟨k + 1, k + 1, by omega, rfl, by go_num, by go_num, by omega, inv_level HI.out (by omega) hfk (fun q h1 h2 => ?_) (fun h => by omega), fun h => ⟨by omega, by omega⟩⟩
                        have := HG.out (q - fr) (by omega)
                        rwa [show fr + (q - fr) = q from by omega] at this
          · have hfl2 : filter = false := by simpa using hfl
            subst hfl2
            clear hfl
            go_wp2_with fail
            have hl1 : (s.extract fr k).size = k - fr := by rw [← K.bsize]; exact ext_len s fr k (by omega)
            have hl2 : ∀ j (h : j < (s.extract fr k).size), (s.extract fr k)[j] = at_ s (fr + j) := fun j h => at_ext s fr k j (by omega) h
            have HL2 := Lib.hid hl2
            have hl3 : k - fr ≤ (s.extract fr k).size := by omega
            have hl4 : (s.extract fr k).size ≤ k - fr := by omega
            clear hl1 hl2
            clear hne
            try clear h43b
            try clear h35d
            generalize s.extract fr k = l at *
            go_loopg [8] (k - fr + 1) (fun gj jv wr2 => ∃ j : Nat, gj + j = k - fr + 1 ∧ w = wr2 ∧ jv = .int .i64 j ∧ j ≤ k - fr ∧ ∀ q, q < j → good false (at_ s (fr + q)))
            case atStart => exact ⟨0, by omega, rfl, rfl, by omega, fun q h => by omega⟩
            case round =>
              obtain ⟨j, hj1, rfl, rfl, hj, hgood⟩ := hrel
              have HJ := Lib.hid hj1
              have HG := Lib.hid hgood
              clear hj1 hgood
              by_cases hjl : j < k - fr
              · have hj3 : j < l.size := by omega
                have hat2 := HL2.out j hj3
                obtain ⟨c, hc2⟩ : ∃ c, c = at_ s (fr + j) := ⟨_, rfl⟩
                rw [← hc2] at hat2
                have HC2 := Lib.hid hc2
                have hc8 := c.toNat_lt
                clear hc2
                rcases byte_cases c with h | h
                · rcases h with h | h | h | h | h
                  · go_wp2_with fail
                    go_roundg (k - fr - j)
                    case measure => have := HJ.out; omega
                    case rel =>
                      refine ⟨j + 1, by omega, rfl, by go_num, by omega, fun q hq => ?_⟩
                      by_cases e : q = j
                      · rw [e, ← HC2.out]; exact good_of _ c (by omega)
                      · exact HG.out q (by omega)
                  · go_wp2_with fail
                    go_roundg (k - fr - j)
                    case measure => have := HJ.out; omega
                    case rel =>
                      refine ⟨j + 1, by omega, rfl, by go_num, by omega, fun q hq => ?_⟩
                      by_cases e : q = j
                      · rw [e, ← HC2.out]; exact good_of _ c (by omega)
                      · exact HG.out q (by omega)
                  · go_wp2_with fail
                    go_roundg (k - fr - j)
                    case measure => have := HJ.out; omega
                    case rel =>
                      refine ⟨j + 1, by omega, rfl, by go_num, by omega, fun q hq => ?_⟩
                      by_cases e : q = j
                      · rw [e, ← HC2.out]; exact good_of _ c (by omega)
                      · exact HG.out q (by omega)
                  · have e45 : ((c.toNat : Int) == 45) = true := by simp; omega
                    go_wp2_with fail
                    go_roundg (k - fr - j)
                    case measure => have := HJ.out; omega
                    case rel =>
                      refine ⟨j + 1, by omega, rfl, by go_num, by omega, fun q hq => ?_⟩
                      by_cases e : q = j
                      · rw [e, ← HC2.out]; exact good_of _ c (by omega)
                      · exact HG.out q (by omega)
                  · have e45 : ((c.toNat : Int) == 45) = false := by simp; omega
                    have e95 : ((c.toNat : Int) == 95) = true := by simp; omega
                    have d57 : decide ((c.toNat : Int) ≤ 57) = false := by simp; omega
                    have d90 : decide ((c.toNat : Int) ≤ 90) = false := by simp; omega
                    go_wp2_with fail
                    go_roundg (k - fr - j)
                    case measure => have := HJ.out; omega
                    case rel =>
                      refine ⟨j + 1, by omega, rfl, by go_num, by omega, fun q hq => ?_⟩
                      by_cases e : q = j
                      · rw [e, ← HC2.out]; exact good_of _ c (by omega)
                      · exact HG.out q (by omega)
                · have e45 : ((c.toNat : Int) == 45) = false := by simp; omega
                  have e95 : ((c.toNat : Int) == 95) = false := by simp; omega
                  rcases h with h | h | h | h | h | h
                  · go_wp2_with fail
                    go_ret
                    exact PlainPost.no
                  · go_wp2_with fail
                    go_ret
                    exact PlainPost.no
                  · have d57 : decide ((c.toNat : Int) ≤ 57) = false := by simp; omega
                    go_wp2_with fail
                    go_ret
                    exact PlainPost.no
                  · have d57 : decide ((c.toNat : Int) ≤ 57) = false := by simp; omega
                    have d90 : decide ((c.toNat : Int) ≤ 90) = false := by simp; omega
                    go_wp2_with fail
                    go_ret
                    exact PlainPost.no
                  · have d57 : decide ((c.toNat : Int) ≤ 57) = false := by simp; omega
                    have d90 : decide ((c.toNat : Int) ≤ 90) = false := by simp; omega
                    go_wp2_with fail
                    go_ret
                    exact PlainPost.no
                  · have d57 : decide ((c.toNat : Int) ≤ 57) = false := by simp; omega
                    have d90 : decide ((c.toNat : Int) ≤ 90) = false := by simp; omega
                    have d122 : decide ((c.toNat : Int) ≤ 122) = false := by simp; omega
                    go_wp2_with fail
                    go_ret
                    exact PlainPost.no
              · go_wp2_with fail
                go_roundg (s.size + 1 - k)
                case measure => have := HK.out; omega
                case rel =>
                  refine ⟨k + 1, k + 1, by omega, rfl, by go_num, by go_num, by omega, inv_level HI.out (by omega) hfk (fun q h1 h2 => ?_) (fun h => by omega), fun h => ⟨by omega, by omega⟩⟩
                  have := HG.out (q - fr) (by omega)
                  rwa [show fr + (q - fr) = q from by omega] at this
        · have hne : (s.extract fr k).toList.isEmpty = true := ext_nil s fr k (by omega)
          go_wp2_with fail
          go_ret
          exact PlainPost.no
    · go_wp2_with fail
      go_ret
      refine ⟨true, rfl, rfl, fun _ => ?_⟩
      obtain ⟨e1, e2⟩ := HE.out (by omega)
      exact ⟨e2, fun q hq => HI.out.2.2.1 q (by omega)⟩
end Go.Proofs.YtjaodjeommkjgaaDoor
