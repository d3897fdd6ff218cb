/-
  A consumer's state among a law's arguments: its numbers, its two slices.
-/
import Derived.Test.YtchphfdoneckeaaDoorSk
import Derived.Test.YtchphfdoneckeaaDoorSa
import Derived.Deep.Slices
import Derived.Deep.Fields
import Derived.ChangeSame
namespace Go.Proofs.YtchphfdoneckeaaDoor
open Go.RowKit Go.WideShapes Go.ChangeShapes Go.Deep
open Cs (Wt Kp Ag)

section
variable {H : Type} {enc : TypeId × Value → H} {P : Program} {w : World} {base : Nat} {spare : Nat → Bool} {held : Bool}
theorem open_slice_fields {t e : TypeId} {fs : Array Field} {fuel : Nat} {cs : List Value} {x : DataW H × List MemPlace} (ht : P.underlying t = some (.slice e)) (he : P.underlying e = some (.struct fs))
    (hone : oneCellFields P fs = true) (hC : P.cellsOf e = fs.size) (h : DataW.trod enc P w base spare held fuel t cs = some x) :
    (cs = [.slice none 0 0] ∧ x = (.nil, [])) ∨
    ∃ (a : Addr) (len cap m : Nat) (D : Nat → DataW H) (Pl : Nat → List MemPlace), cs = [.slice (some a) len cap] ∧ base ≤ a.block ∧ len ≤ cap ∧ cap ≤ maxLen ∧ m = (if spare a.block then cap else len) ∧
      x = (.slice ((List.range len).map D) ((List.range (m - len)).map fun j => D (len + j)), MemPlace.row a (m * fs.size) ++ (List.range m).flatMap Pl) ∧
      ∀ i, i < m → ∃ (ys : List (DataW H × List MemPlace)) (n : Nat), D i = .agg (ys.map (·.1)) ∧ Pl i = ys.flatMap (·.2) ∧ ys.length = fs.size ∧
        ∀ (j : Nat) (f : Field), fs[j]? = some f → ∃ (v : Value) (y : DataW H × List MemPlace), w.cell? (a.add (i * fs.size + j)) = some v ∧ ys[j]? = some y ∧ DataW.trod enc P w base spare held n f.type [v] = some y := by
  rcases open_slice ht h with h0 | ⟨a, len, cap, m, n, D, Pl, hcs, hb, hl, hm, hmm, hx, hi⟩
  · exact .inl h0
  · refine .inr ⟨a, len, cap, m, D, Pl, hcs, hb, hl, hm, hmm, by rw [hC] at hx; exact hx, fun i him => ?_⟩
    obtain ⟨cs', hc, ht'⟩ := hi i him
    rw [hC] at hc
    obtain ⟨ys, n', hn', hy, hlen, hyl, hf⟩ := DataW.trod_struct he ht'
    obtain ⟨_, hcl, hat⟩ := World.cells?_some hc
    simp only [Prod.mk.injEq] at hy
    refine ⟨ys, n', hy.1, hy.2, hyl, fun j f hj => ?_⟩
    obtain ⟨ho, hk⟩ := hone_of hone j f hj
    have hjl : j < fs.size := (Array.getElem?_eq_some_iff.1 hj).1
    have hcell := hat j hjl
    have hv : cs'[j]? = some (cs'[j]'(by omega)) := List.getElem?_eq_getElem (by omega)
    have h1 := hf j f hj
    rw [ho, hk] at h1
    have hone' : (cs'.drop j).take 1 = [cs'[j]'(by omega)] := by
      rw [List.drop_eq_getElem_cons (by omega)]
      rfl
    rw [hone'] at h1
    have hys : ys[j]? = some (ys[j]'(by omega)) := List.getElem?_eq_getElem (by omega)
    refine ⟨_, _, ?_, hys, h1.trans hys⟩
    rw [← Go.Deep.add_add, hcell, hv]
end
section
variable {H : Type} {enc : TypeId × Value → H} {w : World}
theorem u64_of {x : Int} (h : (Lit.int .u64 x).wf = true) : 0 ≤ x ∧ x ≤ 18446744073709551615 := by
  simpa [Lit.wf, IntKind.min, IntKind.max, IntKind.signed, IntKind.bits] using h
theorem open_u64 {fuel : Nat} {x : Value} {y : DataW H × List MemPlace} (h : DataW.trod enc Tryd.prog w 0 (fun _ => true) true fuel 25 [x] = some y) : ∃ q : Nat, x = .int .u64 (q : Int) ∧ q < 18446744073709551616 := by
  obtain ⟨n0, e0, _, w0⟩ := DataW.trod_int Tryd.underlying25 h
  obtain rfl : x = .int .u64 n0 := by simpa using e0
  have := u64_of w0
  exact ⟨n0.toNat, by rw [Int.toNat_of_nonneg this.1], by omega⟩
theorem open_waits {fuel : Nat} {x : Value} {y : DataW H × List MemPlace} (h : DataW.trod enc Tryd.prog w 0 (fun _ => true) true fuel 28 [x] = some y) :
    ∃ A n cap l, x = .slice A n cap ∧ l.length = n ∧ WAt w A l ∧ ∀ z ∈ l, z.s < 18446744073709551616 := by
  rcases open_slice_fields Tryd.underlying28 Tryd.underlying47 (by kernel_rfl) (by kernel_rfl) h with ⟨hcs, _⟩ | ⟨a, len, cap, m, D, Pl, hcs, _, hlc, hm, hmm, _, hi⟩
  · obtain rfl : x = .slice none 0 0 := by simpa using hcs
    exact ⟨none, 0, 0, [], rfl, rfl, fun h => absurd rfl h, fun z hz => by cases hz⟩
  · obtain rfl : x = .slice (some a) len cap := by simpa using hcs
    rw [if_pos rfl] at hmm
    rw [hmm] at hi
    have hall : ∀ i : Nat, ∃ f : Wt, i < len → (w.cell? (a.add (i * 3 + 0)) = some (.int .u64 (f.s : Int)) ∧ w.cell? (a.add (i * 3 + 1)) = some (.int .u64 (f.c : Int)) ∧ w.cell? (a.add (i * 3 + 2)) = some (.int .i64 f.t)) ∧ f.s < 18446744073709551616 := by
      intro i
      by_cases hil : i < len
      · obtain ⟨ys, n, _, _, hyl, hf⟩ := hi i (by omega)
        obtain ⟨v0, y0, c0, _, x0⟩ := hf 0 _ rfl
        obtain ⟨v1, y1, c1, _, x1⟩ := hf 1 _ rfl
        obtain ⟨v2, y2, c2, _, x2⟩ := hf 2 _ rfl
        obtain ⟨q0, rfl, b0⟩ := open_u64 x0
        obtain ⟨q1, rfl, b1⟩ := open_u64 x1
        obtain ⟨n2, e2, _, w2⟩ := DataW.trod_int Tryd.underlying2 x2
        obtain rfl : v2 = .int .i64 n2 := by simpa using e2
        exact ⟨⟨q0, q1, n2⟩, fun _ => ⟨⟨c0, c1, c2⟩, b0⟩⟩
      · exact ⟨⟨0, 0, 0⟩, fun h => absurd h hil⟩
    obtain ⟨F, hF⟩ := Classical.axiomOfChoice hall
    refine ⟨some a, len, cap, (List.range len).map F, rfl, by simp, fun hne => ?_, fun z hz => ?_⟩
    · have hlen : 0 < len := by
        rcases Nat.eq_zero_or_pos len with e | e
        · subst e; exact absurd rfl hne
        · exact e
      have c0 := (hF 0 hlen).1.1
      have hspot : a.spot = none := K.spot_none (W := w) (a := a) c0
      obtain ⟨ab, ao, sp⟩ := a
      simp only at hspot
      subst hspot
      refine ⟨ab, ao, rfl, World.block_lt_of_cell? w _ c0, fun i z hz => ?_⟩
      have hil : i < len := by have := (List.getElem?_eq_some_iff.1 hz).1; simpa using this
      have hz' : F i = z := by simpa [hil] using hz
      have := (hF i hil).1
      rw [hz', K.addr_add _ rfl, K.addr_add _ rfl, K.addr_add _ rfl] at this
      exact this
    · obtain ⟨i, hi2, rfl⟩ := List.mem_map.1 hz
      exact (hF i (by simpa using hi2)).2
theorem open_agains {fuel : Nat} {x : Value} {y : DataW H × List MemPlace} (h : DataW.trod enc Tryd.prog w 0 (fun _ => true) true fuel 29 [x] = some y) :
    ∃ A n cap l, x = .slice A n cap ∧ l.length = n ∧ AAt w A l ∧ ∀ z ∈ l, z.s < 18446744073709551616 ∧ z.n < 18446744073709551616 := by
  rcases open_slice_fields Tryd.underlying29 Tryd.underlying49 (by kernel_rfl) (by kernel_rfl) h with ⟨hcs, _⟩ | ⟨a, len, cap, m, D, Pl, hcs, _, hlc, hm, hmm, _, hi⟩
  · obtain rfl : x = .slice none 0 0 := by simpa using hcs
    exact ⟨none, 0, 0, [], rfl, rfl, fun h => absurd rfl h, fun z hz => by cases hz⟩
  · obtain rfl : x = .slice (some a) len cap := by simpa using hcs
    rw [if_pos rfl] at hmm
    rw [hmm] at hi
    have hall : ∀ i : Nat, ∃ f : Ag, i < len → (w.cell? (a.add (i * 2 + 0)) = some (.int .u64 (f.s : Int)) ∧ w.cell? (a.add (i * 2 + 1)) = some (.int .u64 (f.n : Int))) ∧ f.s < 18446744073709551616 ∧ f.n < 18446744073709551616 := by
      intro i
      by_cases hil : i < len
      · obtain ⟨ys, n, _, _, hyl, hf⟩ := hi i (by omega)
        obtain ⟨v0, y0, c0, _, x0⟩ := hf 0 _ rfl
        obtain ⟨v1, y1, c1, _, x1⟩ := hf 1 _ rfl
        obtain ⟨q0, rfl, b0⟩ := open_u64 x0
        obtain ⟨q1, rfl, b1⟩ := open_u64 x1
        exact ⟨⟨q0, q1⟩, fun _ => ⟨⟨c0, c1⟩, b0, b1⟩⟩
      · exact ⟨⟨0, 0⟩, fun h => absurd h hil⟩
    obtain ⟨F, hF⟩ := Classical.axiomOfChoice hall
    refine ⟨some a, len, cap, (List.range len).map F, rfl, by simp, fun hne => ?_, fun z hz => ?_⟩
    · have hlen : 0 < len := by
        rcases Nat.eq_zero_or_pos len with e | e
        · subst e; exact absurd rfl hne
        · exact e
      have c0 := (hF 0 hlen).1.1
      have hspot : a.spot = none := K.spot_none (W := w) (a := a) c0
      obtain ⟨ab, ao, sp⟩ := a
      simp only at hspot
      subst hspot
      refine ⟨ab, ao, rfl, World.block_lt_of_cell? w _ c0, fun i z hz => ?_⟩
      have hil : i < len := by have := (List.getElem?_eq_some_iff.1 hz).1; simpa using this
      have hz' : F i = z := by simpa [hil] using hz
      have := (hF i hil).1
      rw [hz', K.addr_add _ rfl, K.addr_add _ rfl] at this
      exact this
    · obtain ⟨i, hi2, rfl⟩ := List.mem_map.1 hz
      exact (hF i (by simpa using hi2)).2
theorem open_pair {fuel : Nat} {x0 x1 : Value} {y : DataW H × List MemPlace} (h : DataW.trod enc Tryd.prog w 0 (fun _ => true) true fuel 27 [x0, x1] = some y) :
    ∃ a b : Nat, x0 = .int .u64 (a : Int) ∧ x1 = .int .u64 (b : Int) := by
  have c25 : Tryd.prog.cellsOf 25 = 1 := by kernel_rfl
  obtain ⟨y0, y1, n, _, _, h0, h1⟩ := trod_struct2 Tryd.underlying27 h
  have p0 : DataW.trod enc Tryd.prog w 0 (fun _ => true) true n 25 ((([x0, x1] : List Value).drop 0).take (Tryd.prog.cellsOf 25)) = some y0 := h0
  have p1 : DataW.trod enc Tryd.prog w 0 (fun _ => true) true n 25 ((([x0, x1] : List Value).drop 1).take (Tryd.prog.cellsOf 25)) = some y1 := h1
  rw [c25] at p0 p1
  obtain ⟨a, ha, _⟩ := open_u64 (x := x0) p0
  obtain ⟨b, hb, _⟩ := open_u64 (x := x1) p1
  exact ⟨a, b, ha, hb⟩
set_option maxRecDepth 100000 in
/-- a consumer's state among a law's arguments -/
theorem open_keep {v : Value} {d : DataW H} {p : List MemPlace} (hval : Value.okWide Tryd.prog w .any 0 31 v) (hT : DataW.Trod enc Tryd.prog w 0 (fun _ => true) true 31 v d p) :
    ∃ (k : Kp) (ag : List Ag) (A B : Option Addr) (n m c1 c2 : Nat), v = .agg #[.int .u64 (k.dc : Int), .int .u64 (k.ds : Int), .int .u64 (k.fc : Int), .int .u64 (k.fs : Int), .slice A n c1, .slice B m c2] ∧ k.waits.length = n ∧ ag.length = m ∧ WAt w A k.waits ∧ AAt w B ag ∧
      (∀ x ∈ k.waits, x.s < 18446744073709551616) ∧ (∀ x ∈ ag, x.s < 18446744073709551616 ∧ x.n < 18446744073709551616) := by
  obtain ⟨cs, rfl, hsz⟩ := okWide_struct Tryd.underlying31 hval
  rw [show Tryd.prog.cellsOf 31 = 6 by kernel_rfl] at hsz
  obtain ⟨fuel, h⟩ := hT
  obtain ⟨ys, n', _, _, hlen, hyl, hf⟩ := DataW.trod_struct Tryd.underlying31 h
  obtain ⟨l, rfl⟩ : ∃ l : List Value, cs = l.toArray := ⟨cs.toList, by simp⟩
  match l, hsz with
  | [x0, x1, x2, x3, x4, x5], _ =>
    have c27 : Tryd.prog.cellsOf 27 = 2 := by kernel_rfl
    have c28 : Tryd.prog.cellsOf 28 = 1 := by kernel_rfl
    have c29 : Tryd.prog.cellsOf 29 = 1 := by kernel_rfl
    have hy4 : ys.length = 4 := hyl
    have h0 : DataW.trod enc Tryd.prog w 0 (fun _ => true) true n' 27 ((([x0, x1, x2, x3, x4, x5] : List Value).drop 0).take (Tryd.prog.cellsOf 27)) = ys[0]? := hf 0 _ rfl
    have h1 : DataW.trod enc Tryd.prog w 0 (fun _ => true) true n' 27 ((([x0, x1, x2, x3, x4, x5] : List Value).drop 2).take (Tryd.prog.cellsOf 27)) = ys[1]? := hf 1 _ rfl
    have h2 : DataW.trod enc Tryd.prog w 0 (fun _ => true) true n' 28 ((([x0, x1, x2, x3, x4, x5] : List Value).drop 4).take (Tryd.prog.cellsOf 28)) = ys[2]? := hf 2 _ rfl
    have h3 : DataW.trod enc Tryd.prog w 0 (fun _ => true) true n' 29 ((([x0, x1, x2, x3, x4, x5] : List Value).drop 5).take (Tryd.prog.cellsOf 29)) = ys[3]? := hf 3 _ rfl
    rw [c27] at h0 h1
    rw [c28] at h2
    rw [c29] at h3
    obtain ⟨dc, ds, rfl, rfl⟩ := open_pair (x0 := x0) (x1 := x1) (h0.trans (List.getElem?_eq_getElem (by omega)))
    obtain ⟨fc, fs, rfl, rfl⟩ := open_pair (x0 := x2) (x1 := x3) (h1.trans (List.getElem?_eq_getElem (by omega)))
    obtain ⟨A, n, c1, l, rfl, hl, hW, hs⟩ := open_waits (x := x4) (h2.trans (List.getElem?_eq_getElem (by omega)))
    obtain ⟨B, m, c2, ag, rfl, hm, hA, hsa⟩ := open_agains (x := x5) (h3.trans (List.getElem?_eq_getElem (by omega)))
    exact ⟨⟨dc, ds, fc, fs, l⟩, ag, A, B, n, m, c1, c2, rfl, hl, hm, hW, hA, hs, hsa⟩
end
end Go.Proofs.YtchphfdoneckeaaDoor
