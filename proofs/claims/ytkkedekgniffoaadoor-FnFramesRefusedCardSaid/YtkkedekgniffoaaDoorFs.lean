/-
  Frames in a slice of structs: how they lie in memory, how a law's argument is opened; the sizes' looks.
-/
import Derived.Test.YtkkedekgniffoaaDoorFb
import Derived.Test.YtkkedekgniffoaaDoorFw
import Derived.Deep.Slices
import Derived.Deep.Fields
import Derived.ChangeSame
namespace Go.Proofs.YtkkedekgniffoaaDoor
open Go.RowKit Go.WideShapes Go.ChangeShapes Go.Deep

structure Fa where
  op : Nat
  fin : Bool
  mask : Nat
  data : ByteArray
def Fa.f0 (f : Fa) : Fr.F0 := ⟨f.op, f.fin, f.data.data.toList⟩
def noF : Fa := ⟨0, false, 0, ⟨#[]⟩⟩
abbrev frA (l : List Fa) (j : Nat) : Fa := l.getD j noF
structure Fa.Ok (f : Fa) : Prop where
  op : f.op < 256
  mask : f.mask < 4294967296
  data : f.data.size ≤ 9223372036854775807
def Fa.v (f : Fa) : Value := .agg #[.int .u8 f.op, .bool f.fin, .int .u32 f.mask, .string f.data]
/-- the frames that a slice holds -/
def FrsAt (w : World) (A : Option Addr) (n : Nat) (l : List Fa) : Prop :=
  l.length = n ∧ (0 < n → ∃ ab ao, A = some ⟨ab, ao, none⟩ ∧ ab < w.heap.size ∧ ∀ j, j < n →
    w.cell? ⟨ab, ao + j * 4, none⟩ = some (.int .u8 (frA l j).op) ∧ w.cell? ⟨ab, ao + j * 4 + 1, none⟩ = some (.bool (frA l j).fin) ∧
    w.cell? ⟨ab, ao + j * 4 + 2, none⟩ = some (.int .u32 (frA l j).mask) ∧ w.cell? ⟨ab, ao + j * 4 + 3, none⟩ = some (.string (frA l j).data))
def FrsV (w : World) (v : Value) (l : List Fa) : Prop := ∃ A n cap, v = .slice A n cap ∧ n ≤ cap ∧ cap ≤ 9223372036854775807 ∧ FrsAt w A n l ∧ ∀ f ∈ l, f.Ok
theorem FrsAt.below {w w' : World} {A : Option Addr} {n : Nat} {l : List Fa} (h : FrsAt w A n l) (hb : Below w.heap.size w w') : FrsAt w' A n l := by
  refine ⟨h.1, fun hn => ?_⟩
  obtain ⟨ab, ao, e, hlt, hc⟩ := h.2 hn
  have hx : ∀ o, w'.cell? ⟨ab, o, none⟩ = w.cell? ⟨ab, o, none⟩ := fun o => hb.cell (p := ⟨ab, o, none⟩) hlt
  refine ⟨ab, ao, e, Nat.lt_of_lt_of_le hlt hb.size, fun j hj => ?_⟩
  rw [hx, hx, hx, hx]
  exact hc j hj
theorem FrsV.below {w w' : World} {v : Value} {l : List Fa} (h : FrsV w v l) (hb : Below w.heap.size w w') : FrsV w' v l := by
  obtain ⟨A, n, cap, e, h1, h2, h3, h4⟩ := h
  exact ⟨A, n, cap, e, h1, h2, h3.below hb, h4⟩
theorem frA_mem {l : List Fa} {j : Nat} (h : j < l.length) : frA l j ∈ l := by
  unfold frA
  rw [List.getD, List.getElem?_eq_getElem h]
  exact List.getElem_mem _

section
variable {H : Type} {enc : TypeId × Value → H} {P : Program} {w : World} {base : Nat} {spare : Nat → Bool} {held : Bool}
theorem open_slice_fields {t e : TypeId} {fs : Array Field} {fuel : Nat} {cs : List Value} {x : DataW H × List MemPlace} (ht : P.underlying t = some (.slice e)) (he : P.underlying e = some (.struct fs))
    (hone : oneCellFields P fs = true) (hC : P.cellsOf e = fs.size) (h : DataW.trod enc P w base spare held fuel t cs = some x) :
    (cs = [.slice none 0 0] ∧ x = (.nil, [])) ∨
    ∃ (a : Addr) (len cap m : Nat) (D : Nat → DataW H) (Pl : Nat → List MemPlace), cs = [.slice (some a) len cap] ∧ base ≤ a.block ∧ len ≤ cap ∧ cap ≤ maxLen ∧ m = (if spare a.block then cap else len) ∧
      x = (.slice ((List.range len).map D) ((List.range (m - len)).map fun j => D (len + j)), MemPlace.row a (m * fs.size) ++ (List.range m).flatMap Pl) ∧
      ∀ i, i < m → ∃ (ys : List (DataW H × List MemPlace)) (n : Nat), D i = .agg (ys.map (·.1)) ∧ Pl i = ys.flatMap (·.2) ∧ ys.length = fs.size ∧
        ∀ (j : Nat) (f : Field), fs[j]? = some f → ∃ (v : Value) (y : DataW H × List MemPlace), w.cell? (a.add (i * fs.size + j)) = some v ∧ ys[j]? = some y ∧ DataW.trod enc P w base spare held n f.type [v] = some y := by
  rcases open_slice ht h with h0 | ⟨a, len, cap, m, n, D, Pl, hcs, hb, hl, hm, hmm, hx, hi⟩
  · exact .inl h0
  · refine .inr ⟨a, len, cap, m, D, Pl, hcs, hb, hl, hm, hmm, by rw [hC] at hx; exact hx, fun i him => ?_⟩
    obtain ⟨cs', hc, ht'⟩ := hi i him
    rw [hC] at hc
    obtain ⟨ys, n', hn', hy, hlen, hyl, hf⟩ := DataW.trod_struct he ht'
    obtain ⟨_, hcl, hat⟩ := World.cells?_some hc
    simp only [Prod.mk.injEq] at hy
    refine ⟨ys, n', hy.1, hy.2, hyl, fun j f hj => ?_⟩
    obtain ⟨ho, hk⟩ := hone_of hone j f hj
    have hjl : j < fs.size := (Array.getElem?_eq_some_iff.1 hj).1
    have hcell := hat j hjl
    have hv : cs'[j]? = some (cs'[j]'(by omega)) := List.getElem?_eq_getElem (by omega)
    have h1 := hf j f hj
    rw [ho, hk] at h1
    have hone' : (cs'.drop j).take 1 = [cs'[j]'(by omega)] := by
      rw [List.drop_eq_getElem_cons (by omega)]
      rfl
    rw [hone'] at h1
    have hys : ys[j]? = some (ys[j]'(by omega)) := List.getElem?_eq_getElem (by omega)
    refine ⟨_, _, ?_, hys, h1.trans hys⟩
    rw [← Go.Deep.add_add, hcell, hv]

/-- a slice of frames among a law's arguments -/
theorem open_frames {t e t0 t1 t2 t3 : TypeId} {f0 f1 f2 f3 : Field} {v : Value} {d : DataW H} {p : List MemPlace} (ht : P.underlying t = some (.slice e)) (he : P.underlying e = some (.struct #[f0, f1, f2, f3]))
    (h0 : f0.type = t0) (h1 : f1.type = t1) (h2 : f2.type = t2) (h3 : f3.type = t3) (u0 : P.underlying t0 = some (.int .u8)) (u1 : P.underlying t1 = some .bool) (u2 : P.underlying t2 = some (.int .u32)) (u3 : P.underlying t3 = some .string)
    (hone : oneCellFields P #[f0, f1, f2, f3] = true) (hC : P.cellsOf e = 4) (hsp : ∀ b, spare b = true)
    (hval : Value.okWide P w .any 0 t v) (hT : DataW.Trod enc P w base spare held t v d p) : ∃ l, FrsV w v l := by
  obtain ⟨fuel, h⟩ := hT
  obtain ⟨A0, n0, cap0, rfl⟩ := okWide_slice ht hval
  rcases open_slice_fields ht he hone hC h with ⟨hcs, _⟩ | ⟨a, len, cap, m, D, Pl, hcs, _, hlc, hm, hmm, _, hi⟩
  · simp [Value.cells] at hcs
    obtain ⟨rfl, rfl, rfl⟩ := hcs
    exact ⟨[], none, 0, 0, rfl, Nat.le_refl _, by omega, ⟨rfl, fun h => by omega⟩, fun f hf => by cases hf⟩
  · simp [Value.cells] at hcs
    obtain ⟨rfl, rfl, rfl⟩ := hcs
    rw [hsp, if_pos rfl] at hmm
    rw [hmm] at hi
    have hall : ∀ i : Nat, ∃ f : Fa, i < n0 → (w.cell? (a.add (i * 4 + 0)) = some (.int .u8 f.op) ∧ w.cell? (a.add (i * 4 + 1)) = some (.bool f.fin) ∧ w.cell? (a.add (i * 4 + 2)) = some (.int .u32 f.mask) ∧ w.cell? (a.add (i * 4 + 3)) = some (.string f.data)) ∧ f.Ok := by
      intro i
      by_cases hil : i < n0
      · obtain ⟨ys, n, _, _, hyl, hf⟩ := hi i (by omega)
        obtain ⟨v0, y0, c0, _, x0⟩ := hf 0 f0 rfl
        obtain ⟨v1, y1, c1, _, x1⟩ := hf 1 f1 rfl
        obtain ⟨v2, y2, c2, _, x2⟩ := hf 2 f2 rfl
        obtain ⟨v3, y3, c3, _, x3⟩ := hf 3 f3 rfl
        rw [h0] at x0
        rw [h1] at x1
        rw [h2] at x2
        rw [h3] at x3
        obtain ⟨n0', e0, _, w0⟩ := DataW.trod_int u0 x0
        obtain ⟨b1, e1, _⟩ := DataW.trod_bool u1 x1
        obtain ⟨n2, e2, _, w2⟩ := DataW.trod_int u2 x2
        obtain ⟨s3, e3, _, z3⟩ := DataW.trod_string u3 x3
        obtain rfl : v0 = .int .u8 n0' := by simpa using e0
        obtain rfl : v1 = .bool b1 := by simpa using e1
        obtain rfl : v2 = .int .u32 n2 := by simpa using e2
        obtain rfl : v3 = .string s3 := by simpa using e3
        have q0 : 0 ≤ n0' ∧ n0' ≤ 255 := by simpa [Lit.wf, IntKind.min, IntKind.max, IntKind.signed, IntKind.bits] using w0
        have q2 : 0 ≤ n2 ∧ n2 ≤ 4294967295 := by simpa [Lit.wf, IntKind.min, IntKind.max, IntKind.signed, IntKind.bits] using w2
        unfold maxLen at z3
        refine ⟨⟨n0'.toNat, b1, n2.toNat, s3⟩, fun _ => ⟨⟨?_, c1, ?_, c3⟩, by simp only; omega, by simp only; omega, by simp only; omega⟩⟩
        · simp only; rw [Int.toNat_of_nonneg q0.1]; exact c0
        · simp only; rw [Int.toNat_of_nonneg q2.1]; exact c2
      · exact ⟨noF, fun h => absurd h hil⟩
    obtain ⟨F, hF⟩ := Classical.axiomOfChoice hall
    have hget : ∀ i, i < n0 → frA ((List.range n0).map F) i = F i := by
      intro i hil
      simp [frA, List.getD, hil]
    unfold maxLen at hm
    refine ⟨(List.range n0).map F, some a, n0, cap0, rfl, hlc, by omega, ⟨by simp, fun hn => ?_⟩, fun x hx => ?_⟩
    · have c0 := (hF 0 hn).1.1
      have hspot : a.spot = none := K.spot_none (W := w) (a := a) c0
      obtain ⟨ab, ao, sp⟩ := a
      simp only at hspot
      subst hspot
      refine ⟨ab, ao, rfl, World.block_lt_of_cell? w _ c0, fun j hj => ?_⟩
      have := (hF j hj).1
      rw [hget j hj]
      rw [K.addr_add _ rfl, K.addr_add _ rfl, K.addr_add _ rfl, K.addr_add _ rfl] at this
      exact this
    · obtain ⟨i, hi2, rfl⟩ := List.mem_map.1 hx
      exact (hF i (by simpa using hi2)).2
end

/-- some bool; what was there is as it was; where it is true, P -/
def BoolIf (P : Prop) (w : World) (e : Ending) (w' : World) : Prop := ∃ b : Bool, e = .returned (.bool b) ∧ Below w.heap.size w w' ∧ (b = true → P)
theorem BoolIf.mk {P : Prop} {w w' : World} (b : Bool) (hb : Below w.heap.size w w') (h : b = true → P) : BoolIf P w (.returned (.bool b)) w' := ⟨b, rfl, hb, h⟩

set_option maxRecDepth 100000 in
theorem zzFits18_any (f : Fa) (w : World) (_hf : f.data.size ≤ 9223372036854775807) : Calls Tryd.prog 15 #[f.v] w (BoolIf True w) := by
  obtain ⟨op, fin, mask, s⟩ := f
  unfold Fa.v
  simp only at _hf ⊢
  have hb : Below w.heap.size w (w.alloc (.cells #[.int .u8 op, .bool fin, .int .u32 mask, .string s] 29)) := (Below.refl _ w).alloc (Nat.le_refl _) _
  have HB := Lib.hid hb
  clear hb
  go_enter Tryd.func15, Tryd.ntmps15
  go_wp2_with fail
  all_goals
    go_ret
    exact BoolIf.mk _ HB.out fun _ => trivial

set_option maxRecDepth 100000 in
theorem zzFits17_any (v : Value) (l : List Fa) (w : World) (hN : FrsV w v l) : Calls Tryd.prog 6 #[v] w (BoolIf True w) := by
  obtain ⟨A, n, cap, rfl, hnc, hc, hA, hok⟩ := hN
  have hnm : n ≤ 9223372036854775807 := by omega
  have HA := Lib.hid (And.intro hA hok)
  clear hA hok hnc hc
  go_enter Tryd.func6, Tryd.ntmps6
  by_cases hbig : n ≤ 2147483647
  · go_wp2_with fail
    go_loopw [10] (fun i wr => ∃ k : Nat, k ≤ n ∧ i = .int .i64 k ∧ Below w.heap.size w wr) (fun i _ => n - (intOf i).toNat)
    case atStart => exact ⟨0, by omega, rfl, Below.refl _ _⟩
    case round =>
      obtain ⟨k, hk, rfl, hb⟩ := hrel
      have HB := Lib.hid hb
      clear hb
      by_cases hlt : k < n
      · obtain ⟨ab, ao, rfl, hab, hcs⟩ := HA.out.1.2 (by omega)
        have hx : ∀ o, wr.cell? ⟨ab, o, none⟩ = w.cell? ⟨ab, o, none⟩ := fun o => HB.out.cell (p := ⟨ab, o, none⟩) hab
        have c0 := (hx _).trans (hcs k hlt).1
        have c1 := (hx _).trans (hcs k hlt).2.1
        have c2 := (hx _).trans (hcs k hlt).2.2.1
        have c3 := (hx _).trans (hcs k hlt).2.2.2
        have hm : frA l k ∈ l := frA_mem (by have := HA.out.1.1; omega)
        have HZ := Lib.hid (HA.out.2 _ hm)
        clear hm hcs hx
        generalize frA l k = a at c0 c1 c2 c3 HZ
        have h15 := fun w => zzFits18_any a w HZ.out.data
        unfold Fa.v at h15
        obtain ⟨op, fin, mask, s⟩ := a
        simp only at c0 c1 c2 c3 HZ h15
        go_wp2_with fail
        refine (h15 _).mono ?_
        rintro e w2 ⟨b, rfl, hb2, -⟩
        have hb3 : Below w.heap.size w w2 := (HB.out.alloc HB.out.size _).trans (hb2.mono (by have := HB.out.size; simp; omega))
        have HB3 := Lib.hid hb3
        clear hb2 hb3
        cases b with
        | false =>
          go_wp2_with fail
          go_ret
          exact BoolIf.mk _ HB3.out fun _ => trivial
        | true =>
          go_wp2_with fail
          go_roundw
          case rel => exact ⟨k + 1, by omega, by go_num, HB3.out⟩
          case measure => simp [intOf]; omega
      · go_wp2_with fail
        go_ret
        exact BoolIf.mk _ HB.out fun _ => trivial
  · go_wp2_with fail
    go_ret
    exact BoolIf.mk _ (Below.refl _ _) fun _ => trivial
end Go.Proofs.YtkkedekgniffoaaDoor
