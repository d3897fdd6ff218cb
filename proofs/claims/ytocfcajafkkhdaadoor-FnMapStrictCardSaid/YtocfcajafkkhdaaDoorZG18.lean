/-
  The laws FnMap and FnMapStrict: their walks.
  The arguments of FnMap and FnMapStrict, opened: []string, []Piece.
  What the rows' listed variables give the walks of FnMap and FnMapStrict: three errors are not nil.
-/
import Derived.Test.YtocfcajafkkhdaaDoorZG17
import Derived.Test.YtocfcajafkkhdaaDoorZSz
import Derived.Test.YtocfcajafkkhdaaDoorZG16
import Derived.Test.YtocfcajafkkhdaaDoorRows
import Derived.Deep.Slices
import Derived.Deep.Fields
import Derived.ChangeSame
/- Lm -/
section
namespace Go.Proofs.YtocfcajafkkhdaaDoor
open Go.RowKit

/-- what the laws' arguments are like -/
structure Arg (w : World) (A0 A2 A3 A4 : Option Addr) (d3 d4 : Nat) (ws : List (List UInt8)) (dest : List Pi) (ss ts : List (List UInt8)) : Prop where
  c : Mc w A0 A2 A3 A4 ws dest ss ts
  n0 : ws.length ≤ 9223372036854775807
  n2 : dest.length ≤ 9223372036854775807
  n3 : ss.length ≤ 9223372036854775807
  n4 : ts.length ≤ 9223372036854775807
  u0 : ∀ u ∈ ws, u.length ≤ 9223372036854775807
  u3 : ∀ u ∈ ss, u.length ≤ 9223372036854775807
  u4 : ∀ u ∈ ts, u.length ≤ 9223372036854775807
  p2 : ∀ p ∈ dest, p.word.size ≤ 9223372036854775807 ∧ p.all.length ≤ 9223372036854775807
  wf : ∀ p ∈ dest, p.Wf
  a3 : A3 = none → ss.length = 0 ∧ d3 = 0
  a4 : A4 = none → ts.length = 0 ∧ d4 = 0
theorem Arg.below {w w' : World} {A0 A2 A3 A4 : Option Addr} {d3 d4 : Nat} {ws : List (List UInt8)} {dest : List Pi} {ss ts : List (List UInt8)} (h : Arg w A0 A2 A3 A4 d3 d4 ws dest ss ts) (hb : Below w.heap.size w w') : Arg w' A0 A2 A3 A4 d3 d4 ws dest ss ts :=
  ⟨h.c.below hb, h.n0, h.n2, h.n3, h.n4, h.u0, h.u3, h.u4, h.p2, h.wf, h.a3, h.a4⟩
theorem Sml.ml {ws : List (List UInt8)} {dest : List Pi} {ss ts : List (List UInt8)} (h : Sml ws dest ss ts) (hw : ∀ p ∈ dest, p.Wf) : Ml ws dest ss ts :=
  ⟨h.1.1, h.2.1, h.1.2.1, h.2.2.2.2, hw, h.1.2.2.1, h.2.2.1, h.1.2.2.2, h.2.2.2.1⟩

set_option maxHeartbeats 8000000 in
set_option maxRecDepth 100000 in
theorem fnMap_any (w : World) (A0 A2 A3 A4 : Option Addr) (d0 d2 d3 d4 : Nat) (r : Bool) (miss : Int) (ws : List (List UInt8)) (dest : List Pi) (ss ts : List (List UInt8)) (hA : Arg w A0 A2 A3 A4 d3 d4 ws dest ss ts) (sn : Sn w) :
    Calls Tryd.prog 3 #[.slice A0 ws.length d0, .bool r, .slice A2 dest.length d2, .slice A3 ss.length d3, .slice A4 ts.length d4, .int .i64 miss] w (K.Yes w) := by
  have HA := Lib.hid (And.intro hA sn)
  clear hA sn
  go_enter Tryd.func3, Tryd.ntmps3
  go_wp2_with fail
  refine (fits2_any ws A0 d0 w HA.out.1.n0 HA.out.1.u0 HA.out.1.c.l0).mono ?_
  rintro e w1 ⟨b0, rfl, rfl, hb0⟩
  cases b0 with
  | false =>
    clear hb0
    go_wp2_with fail
    go_ret
    exact ⟨rfl, Below.refl _ _⟩
  | true =>
  have HF0 := Lib.hid (hb0 rfl)
  clear hb0
  go_wp2_with fail
  refine (fits6_any dest A2 d2 w HA.out.1.n2 HA.out.1.p2 HA.out.1.c.l2).mono ?_
  rintro e w1 ⟨b1, rfl, hB1, hb1⟩
  have HB1 := Lib.hid hB1
  clear hB1
  cases b1 with
  | false =>
    clear hb1
    go_wp2_with fail
    go_ret
    exact ⟨rfl, HB1.out⟩
  | true =>
  have HF1 := Lib.hid (hb1 rfl)
  clear hb1
  have HA1 := Lib.hid (And.intro (HA.out.1.below HB1.out) (HA.out.2.below HB1.out))
  go_wp2_with fail
  refine (fits2_any ss A3 d3 w1 HA1.out.1.n3 HA1.out.1.u3 HA1.out.1.c.l3).mono ?_
  rintro e w2 ⟨b2, rfl, rfl, hb2⟩
  cases b2 with
  | false =>
    clear hb2
    go_wp2_with fail
    go_ret
    exact ⟨rfl, HB1.out⟩
  | true =>
  have HF2 := Lib.hid (hb2 rfl)
  clear hb2
  go_wp2_with fail
  refine (fits2_any ts A4 d4 w1 HA1.out.1.n4 HA1.out.1.u4 HA1.out.1.c.l4).mono ?_
  rintro e w2 ⟨b3, rfl, rfl, hb3⟩
  cases b3 with
  | false =>
    clear hb3
    go_wp2_with fail
    go_ret
    exact ⟨rfl, HB1.out⟩
  | true =>
  have HF3 := Lib.hid (hb3 rfl)
  clear hb3
  go_wp2_with fail
  refine (small_any ws dest ss ts A0 A2 A3 A4 d0 d2 d3 d4 w1 HA1.out.1.c HF0.out HF1.out HF2.out HF3.out).mono ?_
  rintro e w2 ⟨b4, rfl, rfl, hb4⟩
  cases b4 with
  | false =>
    clear hb4
    go_wp2_with fail
    refine (awake_any w1).mono ?_
    rintro e w2 ⟨rfl, hb⟩
    have HB2 := Lib.hid (HB1.out.trans (hb.mono HB1.out.size))
    clear hb
    go_wp2_with fail
    go_ret
    exact ⟨rfl, HB2.out⟩
  | true =>
  have HM := Lib.hid ((hb4 rfl).ml HA1.out.1.wf)
  clear hb4
  go_wp2_with fail
  refine (mapped_any w1 A0 d0 r A2 d2 A3 d3 A4 d4 miss ws dest ss ts HA1.out.1.c HM.out HA1.out.1.a3 HA1.out.1.a4).mono ?_
  rintro e w2 ⟨b5, s1, to, subj, out, k, rfl, hB2, hb5⟩
  have HB2 := Lib.hid (And.intro (HB1.out.trans (hB2.mono HB1.out.size)) (HA1.out.2.below hB2))
  clear hB2
  cases b5 with
  | false =>
    clear hb5
    go_wp2_with fail
    refine (awake_any w2).mono ?_
    rintro e w3 ⟨rfl, hb⟩
    have HB3 := Lib.hid (HB2.out.1.trans (hb.mono HB2.out.1.size))
    clear hb
    go_wp2_with fail
    go_ret
    exact ⟨rfl, HB3.out⟩
  | true =>
  have hF := hb5 rfl
  clear hb5
  have hk : k = 0 ∨ k = 2 := by
    rcases hF.2.2.2.2.2.2.2.2.2.2.1 with ⟨h9, _⟩ | ⟨h9, _⟩
    · exact .inl h9
    · exact .inr h9
  have HF := Lib.hid hF
  clear hF
  rcases hk with rfl | rfl
  · have h11 := md_map HM.out HF.out
    have h12 := fun w => md_valid HM.out HF.out w
    unfold MapPost at h11
    rw [K.bmk] at h11
    have H11 := Lib.hid h11
    have H12 := Lib.hid h12
    clear h11 h12
    go_wp2_with fail
    refine (H11.out w2).mono ?_
    rintro e w3 ⟨rfl, hB3⟩
    have HB3 := Lib.hid (HB2.out.1.trans (hB3.mono HB2.out.1.size))
    clear hB3
    go_wp2_with fail
    refine (H12.out w3).mono ?_
    rintro e w4 ⟨rfl, hB4⟩
    have HB4 := Lib.hid (HB3.out.trans (hB4.mono HB3.out.size))
    clear hB4
    go_wp2_with fail
    refine (awake_any w4).mono ?_
    rintro e w5 ⟨rfl, hB5⟩
    have HB5 := Lib.hid (HB4.out.trans (hB5.mono HB4.out.size))
    clear hB5
    go_wp2_with fail
    go_ret
    exact ⟨rfl, HB5.out⟩
  · have H11 := Lib.hid (md_miss HM.out HF.out)
    have H12 := Lib.hid (fun w => md_valid HM.out HF.out w)
    go_wp2_with fail
    refine (H11.out w2 HB2.out.2).mono ?_
    rintro e w3 ⟨rfl, hB3⟩
    have HB3 := Lib.hid (HB2.out.1.trans (hB3.mono HB2.out.1.size))
    clear hB3
    go_wp2_with fail
    refine (H12.out w3).mono ?_
    rintro e w4 ⟨rfl, hB4⟩
    have HB4 := Lib.hid (HB3.out.trans (hB4.mono HB3.out.size))
    clear hB4
    go_wp2_with fail
    refine (awake_any w4).mono ?_
    rintro e w5 ⟨rfl, hB5⟩
    have HB5 := Lib.hid (HB4.out.trans (hB5.mono HB4.out.size))
    clear hB5
    go_wp2_with fail
    go_ret
    exact ⟨rfl, HB5.out⟩
set_option maxHeartbeats 8000000 in
set_option maxRecDepth 100000 in
theorem fnStrict_any (w : World) (A0 A2 A3 A4 : Option Addr) (d0 d2 d3 d4 : Nat) (r : Bool) (ws : List (List UInt8)) (dest : List Pi) (ss ts : List (List UInt8)) (hA : Arg w A0 A2 A3 A4 d3 d4 ws dest ss ts) (sn : Sn w) :
    Calls Tryd.prog 5 #[.slice A0 ws.length d0, .bool r, .slice A2 dest.length d2, .slice A3 ss.length d3, .slice A4 ts.length d4] w (K.Yes w) := by
  have HA := Lib.hid (And.intro hA sn)
  clear hA sn
  go_enter Tryd.func5, Tryd.ntmps5
  go_wp2_with fail
  refine (fits2_any ws A0 d0 w HA.out.1.n0 HA.out.1.u0 HA.out.1.c.l0).mono ?_
  rintro e w1 ⟨b0, rfl, rfl, hb0⟩
  cases b0 with
  | false =>
    clear hb0
    go_wp2_with fail
    go_ret
    exact ⟨rfl, Below.refl _ _⟩
  | true =>
  have HF0 := Lib.hid (hb0 rfl)
  clear hb0
  go_wp2_with fail
  refine (fits6_any dest A2 d2 w HA.out.1.n2 HA.out.1.p2 HA.out.1.c.l2).mono ?_
  rintro e w1 ⟨b1, rfl, hB1, hb1⟩
  have HB1 := Lib.hid hB1
  clear hB1
  cases b1 with
  | false =>
    clear hb1
    go_wp2_with fail
    go_ret
    exact ⟨rfl, HB1.out⟩
  | true =>
  have HF1 := Lib.hid (hb1 rfl)
  clear hb1
  have HA1 := Lib.hid (And.intro (HA.out.1.below HB1.out) (HA.out.2.below HB1.out))
  go_wp2_with fail
  refine (fits2_any ss A3 d3 w1 HA1.out.1.n3 HA1.out.1.u3 HA1.out.1.c.l3).mono ?_
  rintro e w2 ⟨b2, rfl, rfl, hb2⟩
  cases b2 with
  | false =>
    clear hb2
    go_wp2_with fail
    go_ret
    exact ⟨rfl, HB1.out⟩
  | true =>
  have HF2 := Lib.hid (hb2 rfl)
  clear hb2
  go_wp2_with fail
  refine (fits2_any ts A4 d4 w1 HA1.out.1.n4 HA1.out.1.u4 HA1.out.1.c.l4).mono ?_
  rintro e w2 ⟨b3, rfl, rfl, hb3⟩
  cases b3 with
  | false =>
    clear hb3
    go_wp2_with fail
    go_ret
    exact ⟨rfl, HB1.out⟩
  | true =>
  have HF3 := Lib.hid (hb3 rfl)
  clear hb3
  go_wp2_with fail
  refine (small_any ws dest ss ts A0 A2 A3 A4 d0 d2 d3 d4 w1 HA1.out.1.c HF0.out HF1.out HF2.out HF3.out).mono ?_
  rintro e w2 ⟨b4, rfl, rfl, hb4⟩
  cases b4 with
  | false =>
    clear hb4
    go_wp2_with fail
    refine (awake_any w1).mono ?_
    rintro e w2 ⟨rfl, hb⟩
    have HB2 := Lib.hid (HB1.out.trans (hb.mono HB1.out.size))
    clear hb
    go_wp2_with fail
    go_ret
    exact ⟨rfl, HB2.out⟩
  | true =>
  have HM := Lib.hid ((hb4 rfl).ml HA1.out.1.wf)
  clear hb4
  go_wp2_with fail
  refine (mapped_any w1 A0 d0 r A2 d2 A3 d3 A4 d4 (-1) ws dest ss ts HA1.out.1.c HM.out HA1.out.1.a3 HA1.out.1.a4).mono ?_
  rintro e w2 ⟨b5, s1, to, subj, out, k, rfl, hB2, hb5⟩
  have HB2 := Lib.hid (And.intro (HB1.out.trans (hB2.mono HB1.out.size)) (And.intro (HA1.out.2.below hB2) (HA1.out.1.c.below hB2)))
  clear hB2
  cases b5 with
  | false =>
    clear hb5
    go_wp2_with fail
    refine (awake_any w2).mono ?_
    rintro e w3 ⟨rfl, hb⟩
    have HB3 := Lib.hid (HB2.out.1.trans (hb.mono HB2.out.1.size))
    clear hb
    go_wp2_with fail
    go_ret
    exact ⟨rfl, HB3.out⟩
  | true =>
  have hF := hb5 rfl
  clear hb5
  have hk : k = 0 ∨ k = 2 := by
    rcases hF.2.2.2.2.2.2.2.2.2.2.1 with ⟨h9, _⟩ | ⟨h9, _⟩
    · exact .inl h9
    · exact .inr h9
  have HF := Lib.hid hF
  clear hF
  rcases hk with rfl | rfl
  · have h11 := md_map HM.out HF.out
    unfold MapPost at h11
    rw [K.bmk] at h11
    have H11 := Lib.hid h11
    clear h11
    have hd8 := HM.out.d0
    have hs8 := HM.out.s0
    go_wp2_with fail
    refine (loose_any dest A2 d2 ss.length w2 HM.out.d0 HM.out.s0 HB2.out.2.2.l2).mono ?_
    rintro e w3 ⟨b6, rfl, rfl, hb6⟩
    cases b6 with
    | false =>
      clear hb6
      go_wp2_with fail
      refine (awake_any w2).mono ?_
      rintro e w3 ⟨rfl, hb⟩
      have HB3 := Lib.hid (HB2.out.1.trans (hb.mono HB2.out.1.size))
      clear hb
      go_wp2_with fail
      go_ret
      exact ⟨rfl, HB3.out⟩
    | true =>
    have H13 := Lib.hid (md_strict HM.out HF.out (hb6 rfl))
    clear hb6
    go_wp2_with fail
    refine (H11.out w2).mono ?_
    rintro e w3 ⟨rfl, hB3⟩
    have HB3 := Lib.hid (And.intro (HB2.out.1.trans (hB3.mono HB2.out.1.size)) (HB2.out.2.1.below hB3))
    clear hB3
    go_wp2_with fail
    refine (H13.out w3 HB3.out.2).mono ?_
    rintro e w4 ⟨rfl, hB4⟩
    have HB4 := Lib.hid (HB3.out.1.trans (hB4.mono HB3.out.1.size))
    clear hB4
    go_wp2_with fail
    refine (awake_any w4).mono ?_
    rintro e w5 ⟨rfl, hB5⟩
    have HB5 := Lib.hid (HB4.out.trans (hB5.mono HB4.out.size))
    clear hB5
    go_wp2_with fail
    go_ret
    exact ⟨rfl, HB5.out⟩
  · go_wp2_with fail
    refine (awake_any w2).mono ?_
    rintro e w3 ⟨rfl, hb⟩
    have HB3 := Lib.hid (HB2.out.1.trans (hb.mono HB2.out.1.size))
    clear hb
    go_wp2_with fail
    go_ret
    exact ⟨rfl, HB3.out⟩
end Go.Proofs.YtocfcajafkkhdaaDoor
end
/- Op -/
section
namespace Go.Proofs.YtocfcajafkkhdaaDoor
open Go.RowKit Go.WideShapes Go.ChangeShapes Go.Deep

section
variable {H : Type} {enc : TypeId × Value → H} {P : Program} {w : World} {base : Nat} {spare : Nat → Bool} {held : Bool}
/-- a slice without an address is empty -/
theorem none_empty {t e : TypeId} {A : Option Addr} {n c : Nat} {d : DataW H} {p : List MemPlace} (ht : P.underlying t = some (.slice e)) (h : DataW.Trod enc P w base spare held t (.slice A n c) d p) : A = none → n = 0 ∧ c = 0 := by
  obtain ⟨fuel, hf⟩ := h
  rintro rfl
  rcases open_slice ht hf with ⟨hcs, _⟩ | ⟨a, len, cap, m, n2, D, Pl, hcs, _⟩
  · simp [Value.cells] at hcs
    exact hcs
  · simp [Value.cells] at hcs
/-- a []string, as lists of bytes -/
theorem open_words {t e : TypeId} {v : Value} {d : DataW H} {p : List MemPlace} (ht : P.underlying t = some (.slice e)) (he : P.underlying e = some .string) (hc : P.cellsOf e = 1)
    (hval : Value.okWide P w .any 0 t v) (h : DataW.Trod enc P w 0 (fun _ => true) true t v d p) :
    ∃ (A : Option Addr) (c : Nat) (us : List (List UInt8)), v = .slice A us.length c ∧ us.length ≤ 9223372036854775807 ∧ (∀ u ∈ us, u.length ≤ 9223372036854775807) ∧ K.Lies w A us.length (svs us) ∧ (A = none → us.length = 0 ∧ c = 0) := by
  obtain ⟨A, n, c, ss, rfl, hl, hm, hL, hs, _⟩ := K.open_strs ht he hc hval h
  have hn := none_empty ht h
  unfold maxLen at hm hs
  subst hl
  refine ⟨A, c, ss.map (·.data.toList), by rw [List.length_map], by rw [List.length_map]; omega, fun u hu => ?_, ?_, by rw [List.length_map]; exact hn⟩
  · obtain ⟨s, hs1, rfl⟩ := List.mem_map.1 hu
    have := hs s hs1
    rw [K.bsize]
    omega
  · rw [List.length_map]
    intro h0
    obtain ⟨ab, ao, e1, e2, e3⟩ := hL h0
    refine ⟨ab, ao, e1, e2, fun j hj => ?_⟩
    rw [e3 j hj]
    congr 1
    unfold K.strs svs
    simp [List.getD, hj, sv]
theorem cell_nums {t e : TypeId} {v : Value} {fuel : Nat} {x : DataW H × List MemPlace} (ht : P.underlying t = some (.slice e)) (he : P.underlying e = some (.int .i64)) (hc : P.cellsOf e = 1)
    (hf : DataW.trod enc P w base spare held fuel t [v] = some x) :
    ∃ (B : Option Addr) (d : Nat) (zs : List Int), v = .slice B zs.length d ∧ zs.length ≤ 9223372036854775807 ∧ K.Lies w B zs.length (K.nums .i64 zs) ∧ ∀ z ∈ zs, -9223372036854775808 ≤ z ∧ z ≤ 9223372036854775807 := by
  rcases open_ints ht he hc hf with ⟨hcs, hx⟩ | ⟨a, len', cap', zs, hcs, _, hlc, hm, hz, hx, hcell, hws⟩
  · injection hcs with hcs _
    subst hcs
    exact ⟨none, 0, [], rfl, by simp, fun h => by simp at h, fun _ h => by simp at h⟩
  · injection hcs with hcs _
    subst hcs
    have hzl : len' ≤ zs.length := by
      cases hs : spare a.block <;> simp [hs] at hz <;> omega
    unfold maxLen at hm
    have hlen : (zs.take len').length = len' := by rw [List.length_take]; omega
    refine ⟨some a, cap', zs.take len', by rw [hlen], by omega, fun hn => ?_, fun z hz2 => ?_⟩
    · rw [hlen] at hn ⊢
      have h0 := hcell 0 (by omega)
      have hsp : a.spot = none := K.spot_none (W := w) (a := a) h0
      obtain ⟨ab, ao, sp⟩ := a
      simp only at hsp
      subst hsp
      refine ⟨ab, ao, rfl, World.block_lt_of_cell? w _ h0, fun j hj => ?_⟩
      have h1 := hcell j (by omega)
      rw [K.addr_add _ rfl] at h1
      rw [h1]
      simp [K.nums, List.getD, hj]
    · have := hws z (List.mem_of_mem_take hz2)
      simpa [Lit.wf, IntKind.min, IntKind.max, IntKind.signed, IntKind.bits] using this
theorem open_slice_fields {t e : TypeId} {fs : Array Field} {fuel : Nat} {cs : List Value} {x : DataW H × List MemPlace} (ht : P.underlying t = some (.slice e)) (he : P.underlying e = some (.struct fs))
    (hone : oneCellFields P fs = true) (hC : P.cellsOf e = fs.size) (h : DataW.trod enc P w base spare held fuel t cs = some x) :
    (cs = [.slice none 0 0] ∧ x = (.nil, [])) ∨
    ∃ (a : Addr) (len cap m : Nat), cs = [.slice (some a) len cap] ∧ len ≤ cap ∧ cap ≤ maxLen ∧ m = (if spare a.block then cap else len) ∧
      ∀ i, i < m → ∃ (n : Nat), ∀ (j : Nat) (f : Field), fs[j]? = some f → ∃ (v : Value) (y : DataW H × List MemPlace), w.cell? (a.add (i * fs.size + j)) = some v ∧ DataW.trod enc P w base spare held n f.type [v] = some y := by
  rcases open_slice ht h with h0 | ⟨a, len, cap, m, n, D, Pl, hcs, hb, hl, hm, hmm, hx, hi⟩
  · exact .inl h0
  · refine .inr ⟨a, len, cap, m, hcs, hl, hm, hmm, fun i him => ?_⟩
    obtain ⟨cs', hc, ht'⟩ := hi i him
    rw [hC] at hc
    obtain ⟨ys, n', hn', hy, hlen, hyl, hf⟩ := DataW.trod_struct he ht'
    obtain ⟨_, hcl, hat⟩ := World.cells?_some hc
    refine ⟨n', fun j f hj => ?_⟩
    obtain ⟨ho, hk⟩ := hone_of hone j f hj
    have hjl : j < fs.size := (Array.getElem?_eq_some_iff.1 hj).1
    have hcell := hat j hjl
    have hv : cs'[j]? = some (cs'[j]'(by omega)) := List.getElem?_eq_getElem (by omega)
    have h1 := hf j f hj
    rw [ho, hk] at h1
    have hone' : (cs'.drop j).take 1 = [cs'[j]'(by omega)] := by
      rw [List.drop_eq_getElem_cons (by omega)]
      rfl
    rw [hone'] at h1
    have hys : ys[j]? = some (ys[j]'(by omega)) := List.getElem?_eq_getElem (by omega)
    refine ⟨_, _, ?_, h1.trans hys⟩
    rw [← Go.Deep.add_add, hcell, hv]
/-- a []Piece -/
theorem open_pieces {t e t0 t3 t4 : TypeId} {f0 f1 f2 f3 f4 : Field} {v : Value} {d : DataW H} {p : List MemPlace} (ht : P.underlying t = some (.slice e)) (he : P.underlying e = some (.struct #[f0, f1, f2, f3, f4]))
    (h0 : f0.type = t0) (h1 : f1.type = t0) (h2 : f2.type = t0) (h3 : f3.type = t3) (h4 : f4.type = t4) (u0 : P.underlying t0 = some (.int .i64)) (u3 : P.underlying t3 = some .string) (u4 : P.underlying t4 = some (.slice t0)) (hc0 : P.cellsOf t0 = 1)
    (hone : oneCellFields P #[f0, f1, f2, f3, f4] = true) (hC : P.cellsOf e = 5)
    (hval : Value.okWide P w .any 0 t v) (hT : DataW.Trod enc P w 0 (fun _ => true) true t v d p) :
    ∃ (A : Option Addr) (c : Nat) (l : List Pi), v = .slice A l.length c ∧ l.length ≤ 9223372036854775807 ∧ PsAt w A l ∧ (∀ p ∈ l, p.word.size ≤ 9223372036854775807 ∧ p.all.length ≤ 9223372036854775807) ∧ ∀ p ∈ l, p.Wf := by
  obtain ⟨fuel, h⟩ := hT
  obtain ⟨A0, n0, cap0, rfl⟩ := okWide_slice ht hval
  rcases open_slice_fields ht he hone hC h with ⟨hcs, _⟩ | ⟨a, len, cap, m, hcs, hlc, hm, hmm, hi⟩
  · simp [Value.cells] at hcs
    obtain ⟨rfl, rfl, rfl⟩ := hcs
    exact ⟨none, 0, [], rfl, by simp, fun h => by simp at h, fun f hf => (by cases hf), fun f hf => by cases hf⟩
  · simp [Value.cells] at hcs
    obtain ⟨rfl, rfl, rfl⟩ := hcs
    rw [if_pos rfl] at hmm
    rw [hmm] at hi
    have hall : ∀ i : Nat, ∃ f : Pi, i < n0 → (w.cell? (a.add (i * 5 + 0)) = some (.int .i64 f.fn) ∧ w.cell? (a.add (i * 5 + 1)) = some (.int .i64 f.at_) ∧ w.cell? (a.add (i * 5 + 2)) = some (.int .i64 f.n) ∧ w.cell? (a.add (i * 5 + 3)) = some (.string f.word) ∧
        ∃ B d, w.cell? (a.add (i * 5 + 4)) = some (.slice B f.all.length d) ∧ K.Lies w B f.all.length (K.nums .i64 f.all)) ∧ (f.word.size ≤ 9223372036854775807 ∧ f.all.length ≤ 9223372036854775807) ∧ f.Wf := by
      intro i
      by_cases hil : i < n0
      · obtain ⟨n, hf⟩ := hi i (by omega)
        obtain ⟨v0, y0, c0, x0⟩ := hf 0 f0 rfl
        obtain ⟨v1, y1, c1, x1⟩ := hf 1 f1 rfl
        obtain ⟨v2, y2, c2, x2⟩ := hf 2 f2 rfl
        obtain ⟨v3, y3, c3, x3⟩ := hf 3 f3 rfl
        obtain ⟨v4, y4, c4, x4⟩ := hf 4 f4 rfl
        rw [h0] at x0
        rw [h1] at x1
        rw [h2] at x2
        rw [h3] at x3
        rw [h4] at x4
        obtain ⟨n0', e0, _, w0⟩ := DataW.trod_int u0 x0
        obtain ⟨n1, e1, _, w1⟩ := DataW.trod_int u0 x1
        obtain ⟨n2, e2, _, w2⟩ := DataW.trod_int u0 x2
        obtain ⟨s3, e3, _, z3⟩ := DataW.trod_string u3 x3
        obtain rfl : v0 = .int .i64 n0' := by simpa using e0
        obtain rfl : v1 = .int .i64 n1 := by simpa using e1
        obtain rfl : v2 = .int .i64 n2 := by simpa using e2
        obtain rfl : v3 = .string s3 := by simpa using e3
        obtain ⟨B, d, zs, rfl, hz1, hz2, hz3⟩ := cell_nums u4 u0 hc0 x4
        have q0 : -9223372036854775808 ≤ n0' ∧ n0' ≤ 9223372036854775807 := by simpa [Lit.wf, IntKind.min, IntKind.max, IntKind.signed, IntKind.bits] using w0
        have q1 : -9223372036854775808 ≤ n1 ∧ n1 ≤ 9223372036854775807 := by simpa [Lit.wf, IntKind.min, IntKind.max, IntKind.signed, IntKind.bits] using w1
        have q2 : -9223372036854775808 ≤ n2 ∧ n2 ≤ 9223372036854775807 := by simpa [Lit.wf, IntKind.min, IntKind.max, IntKind.signed, IntKind.bits] using w2
        unfold maxLen at z3
        exact ⟨⟨n0', n1, n2, s3, zs⟩, fun _ => ⟨⟨c0, c1, c2, c3, B, d, c4, hz2⟩, ⟨by simp only; omega, hz1⟩, ⟨q1, q2, hz3⟩⟩⟩
      · exact ⟨⟨0, 0, 0, ⟨#[]⟩, []⟩, fun h => absurd h hil⟩
    obtain ⟨F, hF⟩ := Classical.axiomOfChoice hall
    unfold maxLen at hm
    have hlen : ((List.range n0).map F).length = n0 := by simp
    refine ⟨some a, cap0, (List.range n0).map F, by rw [hlen], by rw [hlen]; omega, fun hn => ?_, fun x hx => ?_, fun x hx => ?_⟩
    · rw [hlen] at hn
      have c0 := (hF 0 hn).1.1
      have hspot : a.spot = none := K.spot_none (W := w) (a := a) c0
      obtain ⟨ab, ao, sp⟩ := a
      simp only at hspot
      subst hspot
      refine ⟨ab, ao, rfl, World.block_lt_of_cell? w _ c0, fun j hj => ?_⟩
      rw [hlen] at hj
      have := (hF j hj).1
      rw [K.addr_add _ rfl, K.addr_add _ rfl, K.addr_add _ rfl, K.addr_add _ rfl, K.addr_add _ rfl] at this
      simp only [List.getElem_map, List.getElem_range]
      exact this
    · obtain ⟨i, hi2, rfl⟩ := List.mem_map.1 hx
      exact (hF i (by simpa using hi2)).2.1
    · obtain ⟨i, hi2, rfl⟩ := List.mem_map.1 hx
      exact (hF i (by simpa using hi2)).2.2
end
end Go.Proofs.YtocfcajafkkhdaaDoor
end
/- Ld -/
section
namespace Go.Proofs.YtocfcajafkkhdaaDoor
open Go.RowKit

theorem laid_var {P : Program} {W : World} {n nm : String} {d : DataW Unit} {g : Nat} {ti : TypeId} {ms : Array (String × TypeId)} (hg : P.globalNamed n = some g) (ht : (P.globals[g]?).map (·.type) = some ti) (hi : P.underlying ti = some (.interface ms)) :
    ∀ {l : List (String × DataW Unit)} {ps : List MemPlace}, DataW.LaidVars P W l ps → (n, DataW.iface nm d) ∈ l → ∃ te ve, W.cell? ⟨g, 0, none⟩ = some (.iface te ve)
  | [], _, _, hm => by cases hm
  | (n', d') :: r, ps, h, hm => by
    obtain ⟨g0, t0, cs0, f0, p0, q0, hg0, ht0, hv0, hd0, h5, _⟩ := h
    rcases List.mem_cons.1 hm with e | e
    · cases e
      obtain rfl := Option.some.inj (hg.symm.trans hg0)
      obtain rfl := Option.some.inj (ht.symm.trans ht0)
      obtain ⟨f1, u, v, hcs, hn, h1⟩ := iface_of_trod hi hd0
      refine ⟨u, v, ?_⟩
      have := World.var?_cell hg0 hv0 0
      rw [this, ← Array.getElem?_toList, hcs]
      rfl
    · exact laid_var hg ht hi h5 e
theorem sn_of {W : World} {l : List (String × DataW Unit)} (h : laidMet Tryd.prog l W)
    (h1 : ("pub-streamkeep/pub/natsserver/server.ErrNoTransforms", Rows.laid_pub_streamkeep_pub_natsserver_server_ErrNoTransforms) ∈ l)
    (h4 : ("pub-streamkeep/pub/natsserver/server.ErrMappingDestinationNotSupportedForImport", Rows.laid_pub_streamkeep_pub_natsserver_server_ErrMappingDestinationNotSupportedForImport) ∈ l)
    (h6 : ("pub-streamkeep/pub/natsserver/server.ErrMappingDestinationNotUsingAllWildcards", Rows.laid_pub_streamkeep_pub_natsserver_server_ErrMappingDestinationNotUsingAllWildcards) ∈ l) : Sn W := by
  obtain ⟨ps, hv, _⟩ := h
  exact ⟨laid_var (g := 1) (by kernel_rfl) (by kernel_rfl) Tryd.underlying52 hv h1, laid_var (g := 4) (by kernel_rfl) (by kernel_rfl) Tryd.underlying52 hv h4, laid_var (g := 6) (by kernel_rfl) (by kernel_rfl) Tryd.underlying52 hv h6⟩
theorem sn_map {W : World} (h : laidMetH Tryd.prog Rows.fnMapRow.laid W) : Sn W := by
  rw [MakeChecks.laidMetH_plain _ _ _ (by kernel_rfl)] at h
  exact sn_of h (.tail _ (.head _)) (.tail _ (.tail _ (.tail _ (.tail _ (.tail _ (.tail _ (.tail _ (.tail _ (.tail _ (.head _)))))))))) (.tail _ (.tail _ (.tail _ (.head _))))
theorem sn_strict {W : World} (h : laidMetH Tryd.prog Rows.fnMapStrictRow.laid W) : Sn W := by
  rw [MakeChecks.laidMetH_plain _ _ _ (by kernel_rfl)] at h
  exact sn_of h (.tail _ (.head _)) (.tail _ (.tail _ (.tail _ (.tail _ (.tail _ (.tail _ (.tail _ (.tail _ (.tail _ (.head _)))))))))) (.tail _ (.tail _ (.tail _ (.head _))))
end Go.Proofs.YtocfcajafkkhdaaDoor
end
