/-
  What stands for all that follows goes along: a source and a destination of words with '>' behind.
-/
import Derived.Test.YtocfcajafkkhdaaDoorAw
import Derived.Test.YtocfcajafkkhdaaDoorSj
namespace Go.Proofs.YtocfcajafkkhdaaDoor
open Go.RowKit

/-- a good word -/
def Gw (t : List UInt8) : Prop := t ≠ [] ∧ t.length ≤ 8 ∧ ∀ x ∈ t, ld x
theorem ld_ne {x : UInt8} (h : ld x) : x ≠ 36 ∧ x ≠ 42 ∧ x ≠ 62 ∧ x ≠ 123 ∧ x ≠ 46 := by
  unfold ld at h
  refine ⟨?_, ?_, ?_, ?_, ?_⟩ <;> (rintro rfl; revert h; decide)
theorem Gw.first {t : List UInt8} (h : Gw t) : ∃ c r, t = c :: r ∧ ld c := by
  cases t with
  | nil => exact absurd rfl h.1
  | cons c r => exact ⟨c, r, rfl, h.2.2 c (by simp)⟩
theorem Gw.wd {t : List UInt8} (h : Gw t) : Wd t := by
  obtain ⟨c, r, rfl, hc⟩ := h.first
  have := ld_ne hc
  exact ⟨c, r, rfl, this.1, this.2.1, this.2.2.1, this.2.2.2.1⟩
theorem Gw.ne62 {t : List UInt8} (h : Gw t) : t ≠ [62] := by
  obtain ⟨c, r, rfl, hc⟩ := h.first
  intro e
  injection e with e _
  exact (ld_ne hc).2.2.1 e
theorem Gw.ne42 {t : List UInt8} (h : Gw t) : t ≠ [42] := by
  obtain ⟨c, r, rfl, hc⟩ := h.first
  intro e
  injection e with e _
  exact (ld_ne hc).2.1 e
theorem Gw.pl {t : List UInt8} (h : Gw t) : Pl t := by
  obtain ⟨c, r, e, hc⟩ := h.first
  refine ⟨⟨c, r, e, (ld_ne hc).2.2.2.1, (ld_ne hc).2.2.1⟩, fun x hx => ?_⟩
  have := h.2.2 x hx
  unfold ld at this
  omega
theorem Gw.wordy {t : List UInt8} (h : Gw t) : Wordy ⟨t.toArray⟩ := by
  obtain ⟨c, r, rfl, hc⟩ := h.first
  obtain ⟨p0, p1⟩ := first_of (tb := ⟨(c :: r).toArray⟩) (show (⟨(c :: r).toArray⟩ : ByteArray).data.toList = c :: r from rfl)
  exact .inr ⟨p0, by rw [p1]; exact (ld_ne hc).1, by rw [p1]; exact (ld_ne hc).2.2.2.1⟩
theorem toks_rest {F : List (List UInt8)} (h : ∀ t ∈ F, Gw t) : Toks (F ++ [[62]]) := by
  refine ⟨fun t ht => ?_, fun a b e => ?_⟩
  · rcases List.mem_append.1 ht with h2 | h2
    · exact (h t h2).1
    · obtain rfl : t = [62] := by simpa using h2
      simp
  · have hl := congrArg List.length e
    simp at hl
    rcases Nat.lt_or_ge a.length F.length with hlt | hge
    · have e1 : (F ++ [[62]])[a.length]? = some [62] := by rw [e]; simp
      rw [List.getElem?_append_left hlt] at e1
      exact absurd rfl (h _ (List.mem_of_getElem? e1)).ne62
    · exact List.eq_nil_of_length_eq_zero (by omega)
theorem pwcs_rest {F : List (List UInt8)} (h : ∀ t ∈ F, Gw t) : pwcs (F ++ [[62]]) = 0 := by
  unfold pwcs
  rw [List.countP_eq_zero]
  intro t ht
  rcases List.mem_append.1 ht with h2 | h2
  · simpa using (h t h2).ne42
  · obtain rfl : t = [62] := by simpa using h2
    decide
theorem fwc_rest (F : List (List UInt8)) : fwc (F ++ [[62]]) = true := by rw [fwc_snoc]; simp
theorem mtc_rest {R : List (List UInt8)} (hR : R ≠ []) : ∀ {F : List (List UInt8)}, (∀ t ∈ F, Gw t) → mtc (F ++ R) (F ++ [[62]]) = true
  | [], _ => by
    cases R with
    | nil => exact absurd rfl hR
    | cons r R => simp [mtc]
  | t :: F, h => by
    have ih := mtc_rest hR (F := F) (fun u hu => h u (by simp [hu]))
    rw [List.cons_append, List.cons_append, mtc, if_neg (h t (by simp)).ne62, if_pos (.inr rfl)]
    exact ih
theorem kAt_no (n j : Nat) : kAt (List.replicate n Kn.no) j = Kn.no := by
  unfold kAt
  by_cases h : j < n <;> simp [List.getD, h]
theorem rest_mp (src dest : ByteArray) (F T : List (List UInt8)) (hs : src.size ≤ 1000) (hd : dest.size ≤ 1000) (hS : sp 46 src.data.toList = F ++ [[62]]) (hD : sp 46 dest.data.toList = T ++ [[62]]) (hF : ∀ t ∈ F, Gw t) (hT : ∀ t ∈ T, Gw t) (hT0 : T ≠ []) (nF : F.length ≤ 6) (nT : T.length ≤ 6) :
    Mp src dest (F ++ [[62]]) (T ++ [[62]]) (List.replicate (T ++ [[62]]).length Kn.no) where
  s0 := by
    rcases Nat.eq_zero_or_pos src.size with h | h
    · have : src.data.toList = [] := List.eq_nil_of_length_eq_zero (by rw [K.bsize]; exact h)
      rw [this] at hS
      exfalso
      have hn := (toks_rest hF).1 [] (by rw [← hS]; simp [sp])
      exact hn rfl
    · exact h
  s1 := by omega
  d0 := by
    rcases Nat.eq_zero_or_pos dest.size with h | h
    · have : dest.data.toList = [] := List.eq_nil_of_length_eq_zero (by rw [K.bsize]; exact h)
      rw [this] at hD
      exfalso
      have hn := (toks_rest hT).1 [] (by rw [← hD]; simp [sp])
      exact hn rfl
    · exact h
  d1 := by omega
  d2 := by
    intro e
    rw [e] at hD
    have hl := congrArg List.length hD
    simp [sp] at hl
    exact hT0 hl
  hS := hS
  hD := hD
  tS := toks_rest hF
  tD := toks_rest hT
  np := pwcs_rest hT
  ff := by rw [fwc_rest, fwc_rest]
  wild := .inr (fwc_rest F)
  len := by simp
  kc := by
    intro j hj w
    rw [kAt_no]
    rw [List.length_replicate] at hj
    have hm : (T ++ [[62]]).getD j [] ∈ T ++ [[62]] := by simp only [List.getD, List.getElem?_eq_getElem hj]; exact List.getElem_mem _
    generalize (T ++ [[62]]).getD j [] = t at hm
    rcases List.mem_append.1 hm with h2 | h2
    · exact ph_word ⟨t.toArray⟩ w (by rw [bs_size]; have := (hT t h2).2.1; omega) (hT t h2).wordy
    · obtain rfl : t = [62] := by simpa using h2
      exact ph_word ⟨#[62]⟩ w (by decide) (.inl rfl)
  fit := by
    intro k hk
    obtain ⟨_, rfl⟩ := List.mem_replicate.1 hk
    exact ⟨.inl rfl, by decide⟩
  nS := by simp; omega
  nD := by simp; omega
  lD := by
    intro t ht
    rcases List.mem_append.1 ht with h2 | h2
    · have := (hT t h2).2.1; omega
    · obtain rfl : t = [62] := by simpa using h2
      decide
  sk := by
    intro t ht
    rcases List.mem_append.1 ht with h2 | h2
    · exact .inr (.inr (hF t h2).wd)
    · exact .inr (.inl (by simpa using h2))
  pl := by
    intro t ht
    rcases List.mem_append.1 ht with h2 | h2
    · exact .inr (hT t h2).pl
    · exact .inl (by simpa using h2)
theorem at_no (S : List (List UInt8)) : Kn.at_ S Kn.no = Kn.no := rfl
theorem kAt_map_no (S : List (List UInt8)) (n j : Nat) : kAt ((List.replicate n Kn.no).map (Kn.at_ S)) j = Kn.no := by rw [List.map_replicate, at_no, kAt_no]
theorem rest_out {T R : List (List UInt8)} (F : List (List UInt8)) (hR : R ≠ []) (q : Nat) (hq : q = F.length) :
    finB (T ++ [[62]]) (F ++ R) (fun j => (T ++ [[62]]).getD j []) (T ++ [[62]]).length q = jn 46 (T ++ R) := by
  unfold finB
  rw [if_pos (fwc_rest T), hq, List.drop_left]
  have hl : (T ++ [[62]]).length = T.length + 1 := by simp
  rw [hl, Nat.add_sub_cancel, pc_open _ _ _ (by omega) R hR]
  congr 1
  congr 1
  apply List.ext_getElem
  · simp
  · intro k h1 h2
    have hk : k < T.length := by simpa using h1
    simp [List.getD, List.getElem?_append_left hk, hk]
theorem rest_map (src dest subj : ByteArray) (F T R : List (List UInt8)) (w : World) (hs : src.size ≤ 1000) (hd : dest.size ≤ 1000) (hS : sp 46 src.data.toList = F ++ [[62]]) (hD : sp 46 dest.data.toList = T ++ [[62]]) (hF : ∀ t ∈ F, Gw t) (hT : ∀ t ∈ T, Gw t) (hT0 : T ≠ []) (nF : F.length ≤ 6) (nT : T.length ≤ 6)
    (hsub : subj.size ≤ 1000) (hU : sp 46 subj.data.toList = F ++ R) (hR : ∀ t ∈ R, Gw t) (hR0 : R ≠ []) (nR : R.length ≤ 6) :
    Calls Tryd.prog 11 #[.string src, .string dest, .bool false, .string subj] w (MapPost (jn 46 (T ++ R)) w) := by
  have hg : ∀ t ∈ F ++ R, Gw t := fun t ht => by
    rcases List.mem_append.1 ht with h2 | h2
    · exact hF t h2
    · exact hR t h2
  have h := (rest_mp src dest F T hs hd hS hD hF hT hT0 nF nT).map subj (F ++ R) w (by omega) hU (by simp; omega) (fun t ht => (hg t ht).wd) (fun t ht => by have := (hg t ht).2.1; omega) (mtc_rest hR0 hF) (fun j => (T ++ [[62]]).getD j [])
    (fun j _ _ => .inl ⟨by rw [kAt_map_no]; rfl, rfl⟩)
    (fun j _ _ => by rw [kAt_no]; rfl)
  rw [List.length_replicate, rest_out F hR0 _ (by simp)] at h
  exact h
end Go.Proofs.YtocfcajafkkhdaaDoor
