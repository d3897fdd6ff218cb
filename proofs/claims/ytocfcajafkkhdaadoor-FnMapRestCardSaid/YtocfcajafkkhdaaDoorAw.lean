/-
  awakeMap: a subject is mapped at all.
-/
import Derived.Test.YtocfcajafkkhdaaDoorIm
namespace Go.Proofs.YtocfcajafkkhdaaDoor
open Go.RowKit

def aS : List (List UInt8) := [[97], [42]]
def aD : List (List UInt8) := [[98], [36, 49]]
def aK : List Kn := [Kn.no, Kn.wild 1]
def aT : List (List UInt8) := [[97], [99]]
theorem toks_of {ts : List (List UInt8)} (h1 : ∀ t ∈ ts, t ≠ []) (h2 : [62] ∉ ts) : Toks ts := ⟨h1, fun a b e => absurd (by rw [e]; simp) h2⟩
theorem wd_of {c : UInt8} {r : List UInt8} (h1 : c ≠ 36) (h2 : c ≠ 42) (h3 : c ≠ 62) (h4 : c ≠ 123) : Wd (c :: r) := ⟨c, r, rfl, h1, h2, h3, h4⟩
theorem awakeMp : Mp ⟨#[97, 46, 42]⟩ ⟨#[98, 46, 36, 49]⟩ aS aD aK where
  s0 := by decide
  s1 := by decide
  d0 := by decide
  d1 := by decide
  d2 := by decide
  hS := by decide
  hD := by decide
  tS := toks_of (by decide) (by decide)
  tD := toks_of (by decide) (by decide)
  np := by decide
  ff := by decide
  wild := .inl (by decide)
  len := rfl
  kc := by
    intro j hj w
    match j, hj with
    | 0, _ => exact ph_word ⟨#[98]⟩ w (by decide) (.inl rfl)
    | 1, _ =>
      have h := ph_dollar ⟨#[36, 49]⟩ w (by decide) (by decide) rfl (by
        show Digits ((⟨#[36, 49]⟩ : ByteArray).extract 1 2).data.toList
        rw [show ((⟨#[36, 49]⟩ : ByteArray).extract 1 2).data.toList = [49] from rfl]
        exact ⟨by simp, by decide⟩)
      have e : dec ((⟨#[36, 49]⟩ : ByteArray).extract 1 (⟨#[36, 49]⟩ : ByteArray).size).data.toList = 1 := by
        rw [show ((⟨#[36, 49]⟩ : ByteArray).extract 1 (⟨#[36, 49]⟩ : ByteArray).size).data.toList = [49] from rfl]
        rfl
      rw [e] at h
      exact h
  fit := by
    intro k hk
    simp only [aK, List.mem_cons, List.not_mem_nil, or_false] at hk
    rcases hk with rfl | rfl
    · exact ⟨.inl rfl, by decide⟩
    · exact ⟨.inr ⟨by decide, by decide⟩, by decide⟩
  nS := by decide
  nD := by decide
  lD := by decide
  sk := by
    intro t ht
    simp only [aS, List.mem_cons, List.not_mem_nil, or_false] at ht
    rcases ht with rfl | rfl
    · exact .inr (.inr (wd_of (by decide) (by decide) (by decide) (by decide)))
    · exact .inl rfl
  pl := by
    intro t ht
    simp only [aD, List.mem_cons, List.not_mem_nil, or_false] at ht
    rcases ht with rfl | rfl
    · exact .inr ⟨⟨98, [], rfl, by decide, by decide⟩, by decide⟩
    · exact .inr ⟨⟨36, [49], rfl, by decide, by decide⟩, by decide⟩
theorem awakeMap_map (w : World) : Calls Tryd.prog 11 #[.string ⟨#[97, 46, 42]⟩, .string ⟨#[98, 46, 36, 49]⟩, .bool false, .string ⟨#[97, 46, 99]⟩] w (MapPost [98, 46, 99] w) := by
  have h := awakeMp.map ⟨#[97, 46, 99]⟩ aT w (by decide) (by decide) (by decide) (by
      intro t ht
      simp only [aT, List.mem_cons, List.not_mem_nil, or_false] at ht
      rcases ht with rfl | rfl
      · exact wd_of (by decide) (by decide) (by decide) (by decide)
      · exact wd_of (by decide) (by decide) (by decide) (by decide)) (by decide) (by decide) (fun j => if j = 0 then [98] else [99]) (by
      intro j hj _
      match j, hj with
      | 0, _ => exact .inl ⟨rfl, rfl⟩
      | 1, _ => exact .inr ⟨rfl, 1, rfl, by decide, rfl⟩) (by
      intro j hj e
      match j, hj with
      | 0, _ => exact absurd e (by decide)
      | 1, _ => exact absurd e (by decide))
  exact h
def YesPost (w : World) (e : Ending) (w' : World) : Prop := e = .returned (.bool true) ∧ Below w.heap.size w w'
set_option maxRecDepth 100000 in
theorem awake_any (w : World) : Calls Tryd.prog 9 #[] w (YesPost w) := by
  have h11 := awakeMap_map w
  have h12 := fun w => awakeMp.valid w
  go_enter Tryd.func9, Tryd.ntmps9
  go_wp2_with fail
  refine h11.mono ?_
  rintro e w1 ⟨rfl, hb1⟩
  clear h11
  go_wp2_with fail
  refine (h12 w1).mono ?_
  rintro e w2 ⟨rfl, hb2⟩
  clear h12
  go_wp2_with fail
  go_ret
  exact ⟨rfl, hb1.trans (hb2.mono hb1.size)⟩
end Go.Proofs.YtocfcajafkkhdaaDoor
