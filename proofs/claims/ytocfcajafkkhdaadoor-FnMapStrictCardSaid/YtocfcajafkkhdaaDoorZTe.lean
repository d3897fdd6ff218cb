/-
  TransformTokenizedSubject: a round of the great loop, whatever the token is. Printed by wip/py/gen_tp.py.
-/
import Derived.Test.YtocfcajafkkhdaaDoorZTd
import Derived.Test.YtocfcajafkkhdaaDoorZG12
import Derived.Test.YtocfcajafkkhdaaDoorZG12b
import Derived.Test.YtocfcajafkkhdaaDoorZTq8
import Derived.Test.YtocfcajafkkhdaaDoorZG9
import Derived.Test.YtocfcajafkkhdaaDoorZG13
namespace Go.Proofs.YtocfcajafkkhdaaDoor
open Go.RowKit

set_option maxRecDepth 1000000 in
theorem head33 (w wr : World) (p tg tn n : Nat) (cT : Nat) (x : Nat → Value) (j tb to : Nat) (ty : Int) (acc o : List UInt8) (hjn : j < n) (hn : n ≤ 1000) (cTy : wr.cell? ⟨tb, to + j, none⟩ = some (.int .i16 ty)) (hl : (acc ++ o).length ≤ 90000000)
    (h : ty ≠ 0 → ∀ y, swC.wp Tryd.prog (Ends fun a v => (∃ y, a = ⟨(E33 p tg tn w.heap.size n (some ⟨tb, to, none⟩) cT y j ).toArray, []⟩) ∧ TrRel w (acc ++ o) v) ⟨(T33 p tg tn w.heap.size n (some ⟨tb, to, none⟩) cT y j ty).toArray, []⟩ wr)
    (h0 : ty = 0 → ∀ y, wordC.wp Tryd.prog (Ends fun a v => (∃ y, a = ⟨(E33 p tg tn w.heap.size n (some ⟨tb, to, none⟩) cT y j ).toArray, []⟩) ∧ TrRel w (acc ++ o) v) ⟨(E33 p tg tn w.heap.size n (some ⟨tb, to, none⟩) cT y j ).toArray, []⟩ wr) :
    bodyL.wp Tryd.prog (Ends fun a v => (∃ y, a = ⟨(F33 p tg tn w.heap.size n (some ⟨tb, to, none⟩) cT y (j + 1)).toArray, []⟩) ∧ TrRel w (acc ++ o ++ if j + 1 < n then [46] else []) v) ⟨(F33 p tg tn w.heap.size n (some ⟨tb, to, none⟩) cT x j).toArray, []⟩ wr := by
  refine glue (c := bodyL) (by kernel_rfl) (hd6 w wr p tg tn n (some ⟨tb, to, none⟩) cT x j (fun a v => a.eval (.tmp 62) = .bool true ∧ (∃ y, a = ⟨(F33 p tg tn w.heap.size n (some ⟨tb, to, none⟩) cT y j).toArray, []⟩) ∧ wr = v) hjn fun a h1 h2 => ⟨h1, h2, rfl⟩) ?_
  rintro _ _ ⟨he, ⟨y1, rfl⟩, rfl⟩
  refine glue (c := c2 bodyL) (by kernel_rfl) (K1 := fun a v => a = ⟨(F33 p tg tn w.heap.size n (some ⟨tb, to, none⟩) cT y1 j).toArray, []⟩ ∧ wr = v) (gluet (.tmp 62) (by kernel_rfl) he (glues (by kernel_rfl) ⟨rfl, rfl⟩)) ?_
  rintro _ _ ⟨rfl, rfl⟩
  refine glue (c := c2 (c2 bodyL)) (by kernel_rfl) (K1 := fun a v => (∃ y, a = ⟨(E33 p tg tn w.heap.size n (some ⟨tb, to, none⟩) cT y j ).toArray, []⟩) ∧ TrRel w (acc ++ o ++ if j + 1 < n then [46] else []) v) ?_ ?_
  · refine glueb 1 (by kernel_rfl) ?_
    refine glue (c := cb (c1 (c2 (c2 (bodyL))))) (by kernel_rfl) (hd7 w wr p tg tn n (some ⟨tb, to, none⟩) cT y1 j (fun a v => (∃ y, a = ⟨(E8 p tg tn w.heap.size n (some ⟨tb, to, none⟩) cT y j ty).toArray, []⟩) ∧ wr = v) ty tb to hjn rfl cTy fun a h2 => ⟨h2, rfl⟩) ?_
    rintro _ _ ⟨⟨y2, rfl⟩, rfl⟩
    refine glue (c := c2 (cb (c1 (c2 (c2 (bodyL)))))) (by kernel_rfl) (K1 := fun a v => (∃ y, a = ⟨(E33 p tg tn w.heap.size n (some ⟨tb, to, none⟩) cT y j ).toArray, []⟩) ∧ TrRel w (acc ++ o) v) ?_ ?_
    · refine glue (c := c1 (c2 (cb (c1 (c2 (c2 (bodyL))))))) (by kernel_rfl) (hd8 w wr p tg tn n (some ⟨tb, to, none⟩) cT y2 j (fun a v => a.eval (.tmp 67) = .bool (ty == 0) ∧ (∃ y, a = ⟨(E8 p tg tn w.heap.size n (some ⟨tb, to, none⟩) cT y j ty).toArray, []⟩) ∧ wr = v) ty fun a h1 h2 => ⟨h1, h2, rfl⟩) ?_
      rintro _ _ ⟨he2, ⟨y3, rfl⟩, rfl⟩
      by_cases hty : ty = 0
      · refine gluet (.tmp 67) (by kernel_rfl) (he2.trans (by rw [hty]; rfl)) ?_
        obtain ⟨y4, hy4⟩ := back_E33 (p := p) (tg := tg) (tn := tn) (b := w.heap.size) (n := n) (T := some ⟨tb, to, none⟩) (cT := cT) (j := j) (l := E8 p tg tn w.heap.size n (some ⟨tb, to, none⟩) cT y3 j ty) (by kernel_rfl)
        rw [hy4]
        exact h0 hty y4
      · refine gluee (.tmp 67) (by kernel_rfl) (he2.trans (by rw [beq_eq_false_iff_ne.2 hty])) ?_
        refine glue (c := ce (c2 (c1 (c2 (cb (c1 (c2 (c2 (bodyL))))))))) (by kernel_rfl) (hd11 w wr p tg tn n (some ⟨tb, to, none⟩) cT y3 j (fun a v => (∃ y, a = ⟨(T33 p tg tn w.heap.size n (some ⟨tb, to, none⟩) cT y j ty).toArray, []⟩) ∧ wr = v) ty fun a h2 => ⟨h2, rfl⟩) ?_
        rintro _ _ ⟨⟨y4, rfl⟩, rfl⟩
        exact glueb 2 (by kernel_rfl) (h hty y4)
    · rintro _ v ⟨⟨y3, rfl⟩, hr⟩
      exact tail33 w v p tg tn n (some ⟨tb, to, none⟩) cT y3 j (acc ++ o) hr hl _ fun a wv h1 h2 => ⟨h1, h2⟩
  · rintro _ v ⟨⟨y3, rfl⟩, hr⟩
    exact hd104 w v p tg tn n (some ⟨tb, to, none⟩) cT y3 j _ hjn hn fun a h1 => ⟨h1, hr⟩
/-- what a function of a word and a number makes -/
def Two (ty : Int) (w : List UInt8) (N : Nat) (o : List UInt8) : Prop :=
  (ty = 4 ∧ o = w.take N ++ 46 :: w.drop N) ∨ (ty = 5 ∧ o = w.take (w.length - N) ++ 46 :: w.drop (w.length - N)) ∨ (ty = 9 ∧ o = w.take N) ∨ (ty = 10 ∧ o = w.drop (w.length - N)) ∨ (ty = 6 ∧ o = dots (cL N) w w.length) ∨ (ty = 7 ∧ o = dots (cR N w.length) w w.length)
/-- what is written for a token of the destination -/
def Out2 (D toks : List (List UInt8)) (ks : List Kn) (j : Nat) (o : List UInt8) : Prop :=
  o.length ≤ 1000 ∧ (((kAt ks j).ty = 0 ∧ o = D.getD j []) ∨
  ((kAt ks j).ty = 3 ∧ ∃ t : Nat, (kAt ks j).is = [(t : Int)] ∧ t < toks.length ∧ o = toks.getD t []) ∨
  (∃ (t N : Nat) (ty : Int), kAt ks j = Kn.two ty t N ∧ t < toks.length ∧ 1 ≤ N ∧ N ≤ 1000 ∧ N < (toks.getD t []).length ∧ Two ty (toks.getD t []) N o) ∨
  (∃ (t : Nat) (m : UInt8), kAt ks j = Kn.cut t ⟨#[m]⟩ ∧ t < toks.length ∧ (∀ u ∈ sp m (toks.getD t []), u ≠ []) ∧ o = jn 46 (sp m (toks.getD t []))) ∨
  (∃ (ts : List Nat) (N : Nat), kAt ks j = Kn.part N ts ∧ ts ≠ [] ∧ ts.length ≤ 100 ∧ (∀ t ∈ ts, t < toks.length) ∧ 1 ≤ N ∧ N ≤ 1000 ∧ o = hashed N (gat toks ts)))
/-- a transform in memory, its parts by name -/
def TrX (w : World) (p : Nat) (src dest : ByteArray) (S D : List (List UInt8)) (ks : List Kn) (A : Option Addr) (cA : Nat) (X : Option Addr) (cX : Nat) (T : Option Addr) (cT : Nat) (U : Option Addr) (cU : Nat) (V : Option Addr) (cV : Nat) (Y : Option Addr) (cY : Nat) (us : List Value) : Prop :=
  w.heap[p]? = some (.cells #[.string src, .string dest, .slice A D.length cA, .slice X S.length cX, .slice T ks.length cT, .slice U ks.length cU, .slice V ks.length cV, .slice Y ks.length cY] 66 (0, 0)) ∧
    K.Lies w A D.length (fun j => (D.map sv).getD j undef) ∧ K.Lies w X S.length (fun j => (S.map sv).getD j undef) ∧ K.Lies w T ks.length (fun j => (kAt ks j).tyV) ∧
    us.length = ks.length ∧ K.Lies w U ks.length (fun j => us.getD j undef) ∧ (∀ j, j < ks.length → Ints w (us.getD j undef) (kAt ks j).is) ∧
    K.Lies w V ks.length (fun j => (kAt ks j).argV) ∧ K.Lies w Y ks.length (fun j => (kAt ks j).strV)
theorem round_any (w wr : World) (p tg : Nat) (src dest : ByteArray) (S D : List (List UInt8)) (ks : List Kn) (toks : List (List UInt8)) (A : Option Addr) (cA : Nat) (X : Option Addr) (cX : Nat) (T : Option Addr) (cT : Nat) (U : Option Addr) (cU : Nat) (V : Option Addr) (cV : Nat) (Y : Option Addr) (cY : Nat) (us : List Value)
    (hX : TrX w p src dest S D ks A cA X cX T cT U cU V cV Y cY us) (hk : ks.length = D.length) (hn : ks.length ≤ 1000) (hDl : ∀ t ∈ D, t.length ≤ 1000)
    (hl : K.Lies w (some ⟨tg, 0, none⟩) toks.length (fun j => (toks.map sv).getD j undef)) (htl : ∀ t ∈ toks, t.length ≤ 1000) (hne : ∀ t ∈ toks, t ≠ []) (htn : toks.length ≤ 1000)
    (j : Nat) (hjn : j < ks.length) (h62 : D.getD j [] ≠ [62]) (o : List UInt8) (ho : Out2 D toks ks j o) (acc : List UInt8) (hacc : acc.length ≤ 80000000) (hR : TrRel w acc wr) (x : Nat → Value) :
    bodyL.wp Tryd.prog (Ends fun a v => (∃ y, a = ⟨(F33 p tg toks.length w.heap.size ks.length T cT y (j + 1)).toArray, []⟩) ∧ TrRel w (acc ++ o ++ if j + 1 < ks.length then [46] else []) v) ⟨(F33 p tg toks.length w.heap.size ks.length T cT x j).toArray, []⟩ wr := by
  obtain ⟨hb, lA, lX, lT, hus, lU, hU, lV, lY⟩ := hX
  have hp : p < w.heap.size := lt_of hb
  have hB := hR.2.1
  have h0 : 0 < ks.length := by omega
  have cell : ∀ (q i : Nat) (v : Value), q < w.heap.size → w.cell? ⟨q, i, none⟩ = some v → wr.cell? ⟨q, i, none⟩ = some v := fun q i v h1 h2 => (hB.cell (p := ⟨q, i, none⟩) h1).trans h2
  have d2 := cell p 2 (.slice A D.length cA) hp (by rw [Lib.cell_of_heap hb]; rfl)
  have d5 := cell p 5 (.slice U ks.length cU) hp (by rw [Lib.cell_of_heap hb]; rfl)
  have d6 := cell p 6 (.slice V ks.length cV) hp (by rw [Lib.cell_of_heap hb]; rfl)
  have d7 := cell p 7 (.slice Y ks.length cY) hp (by rw [Lib.cell_of_heap hb]; rfl)
  obtain ⟨tb, to, rfl, htb, htc⟩ := lT h0
  obtain ⟨ab, ao, rfl, hab, hac⟩ := lA (by omega)
  obtain ⟨ub, uo, rfl, hub, huc⟩ := lU h0
  obtain ⟨vb, vo, rfl, hvb, hvc⟩ := lV h0
  obtain ⟨yb, yo, rfl, hyb, hyc⟩ := lY h0
  simp only [] at htc hac huc hvc hyc
  have hlen : (acc ++ o).length ≤ 90000000 := by rw [List.length_append]; have := ho.1; omega
  have hacc2 : acc.length ≤ 90000000 := by omega
  have cTy := cell tb (to + j) _ htb (htc j hjn)
  have tokc : ∀ t, t < toks.length → wr.cell? ⟨tg, t, none⟩ = some (sv (toks.getD t [])) ∧ tg < w.heap.size := by
    intro t ht
    obtain ⟨qb, qo, hq, hqb, hqc⟩ := hl (by omega)
    injection hq with hq
    injection hq with hq1 hq2 _
    subst hq1 hq2
    refine ⟨cell tg t _ hqb ?_, hqb⟩
    have h5 := hqc t ht
    rw [Nat.zero_add] at h5
    rw [h5]
    simp [List.getD, ht]
  have tokl : ∀ t, (toks.getD t []).length ≤ 1000 := by
    intro t
    by_cases ht : t < toks.length
    · exact htl _ (by rw [List.getD, List.getElem?_eq_getElem ht]; exact List.getElem_mem ht)
    · simp [List.getD, List.getElem?_eq_none (by omega : toks.length ≤ t)]
  have tokn : ∀ t, t < toks.length → toks.getD t [] ≠ [] := fun t ht => hne _ (by rw [List.getD, List.getElem?_eq_getElem ht]; exact List.getElem_mem ht)
  -- the slice of places
  have one : ∀ t : Nat, (kAt ks j).is = [(t : Int)] → ∃ g3 c3, wr.cell? ⟨ub, uo + j, none⟩ = some (.slice (some ⟨g3, 0, none⟩) 1 c3) ∧ wr.cell? ⟨g3, 0, none⟩ = some (.int .i64 (t : Int)) := by
    intro t ht
    have hI := hU j hjn
    rw [ht] at hI
    obtain ⟨g3, c3, hus3, hg3, hc3⟩ := hI.lies
    exact ⟨g3, c3, cell ub _ _ hub ((huc j hjn).trans (by rw [hus3]; rfl)), cell g3 0 _ hg3 (hc3 0 (by simp))⟩
  obtain ⟨hol, ho⟩ := ho
  unfold Kn.tyV at cTy
  refine head33 w wr p tg toks.length ks.length cT x j tb to (kAt ks j).ty acc o hjn hn cTy hlen ?_ ?_
  · intro hty y
    rcases ho with ⟨h1, _⟩ | ⟨h3, t, hi, ht, rfl⟩ | ⟨t, N, ty, hkn, ht, hN1, hN2, hN3, ho⟩ | ⟨t, m, hkn, ht, hs, rfl⟩ | ⟨ts, N, hkn, hts0, hts1, hts2, hN1, hN2, rfl⟩
    · exact absurd h1 hty
    · obtain ⟨g3, c3, cU0, cI⟩ := one t hi
      obtain ⟨sb, hsb⟩ : ∃ sb : ByteArray, sv (toks.getD t []) = .string sb := ⟨_, rfl⟩
      have hsl : sb.data.toList = toks.getD t [] := by unfold sv at hsb; injection hsb with hsb; rw [← hsb]
      have cQ := (tokc t ht).1
      rw [hsb] at cQ
      rw [h3, ← hsl]
      refine to_arm3 w wr p tg toks.length ks.length (some ⟨tb, to, none⟩) cT y j _ ?_
      rintro _ ⟨z, rfl⟩
      exact arm3 w wr p tg toks.length ks.length (some ⟨tb, to, none⟩) cT z j t ub uo cU g3 c3 sb acc hjn hn ht htn d5 cU0 cI cQ (by rw [← K.bsize, hsl]; exact tokl t) hR hacc2 _ fun a wv h1 h2 => ⟨h1, h2⟩
    · obtain ⟨g3, c3, cU0, cI⟩ := one t (by rw [hkn]; rfl)
      obtain ⟨sb, hsb⟩ : ∃ sb : ByteArray, sv (toks.getD t []) = .string sb := ⟨_, rfl⟩
      have hsl : sb.data.toList = toks.getD t [] := by unfold sv at hsb; injection hsb with hsb; rw [← hsb]
      have cQ := (tokc t ht).1
      rw [hsb] at cQ
      have cV0 := cell vb (vo + j) (.int .i32 (N : Int)) hvb ((hvc j hjn).trans (by rw [hkn]; rfl))
      have hN3' : N < sb.size := by rw [← K.bsize, hsl]; exact hN3
      have hsz : sb.size ≤ 1000 := by rw [← K.bsize, hsl]; exact tokl t
      rw [← hsl] at ho
      have hkt : (kAt ks j).ty = ty := by rw [hkn]; rfl
      rw [hkt]
      unfold Two at ho
      rw [K.bsize] at ho
      rcases ho with ⟨rfl, rfl⟩ | ⟨rfl, rfl⟩ | ⟨rfl, rfl⟩ | ⟨rfl, rfl⟩ | ⟨rfl, rfl⟩ | ⟨rfl, rfl⟩
      · refine to_arm4 w wr p tg toks.length ks.length (some ⟨tb, to, none⟩) cT y j _ ?_
        rintro _ ⟨z, rfl⟩
        exact arm4 w wr p tg toks.length ks.length (some ⟨tb, to, none⟩) cT z j t N ub uo cU g3 c3 vb vo cV sb acc hjn hn ht hp d5 d6 cU0 cI cQ cV0 hN1 hN2 hN3' hsz hR hacc2 _ fun a wv h1 h2 => ⟨h1, h2⟩
      · refine to_arm5 w wr p tg toks.length ks.length (some ⟨tb, to, none⟩) cT y j _ ?_
        rintro _ ⟨z, rfl⟩
        exact arm5 w wr p tg toks.length ks.length (some ⟨tb, to, none⟩) cT z j t N ub uo cU g3 c3 vb vo cV sb acc hjn hn ht hp d5 d6 cU0 cI cQ cV0 hN1 hN2 hN3' hsz hR hacc2 _ fun a wv h1 h2 => ⟨h1, h2⟩
      · refine to_arm9 w wr p tg toks.length ks.length (some ⟨tb, to, none⟩) cT y j _ ?_
        rintro _ ⟨z, rfl⟩
        exact arm9 w wr p tg toks.length ks.length (some ⟨tb, to, none⟩) cT z j t N ub uo cU g3 c3 vb vo cV sb acc hjn hn ht hp d5 d6 cU0 cI cQ cV0 hN1 hN2 hN3' hsz hR hacc2 _ fun a wv h1 h2 => ⟨h1, h2⟩
      · refine to_arm10 w wr p tg toks.length ks.length (some ⟨tb, to, none⟩) cT y j _ ?_
        rintro _ ⟨z, rfl⟩
        exact arm10 w wr p tg toks.length ks.length (some ⟨tb, to, none⟩) cT z j t N ub uo cU g3 c3 vb vo cV sb acc hjn hn ht hp d5 d6 cU0 cI cQ cV0 hN1 hN2 hN3' hsz hR hacc2 _ fun a wv h1 h2 => ⟨h1, h2⟩
      · refine to_arm6 w wr p tg toks.length ks.length (some ⟨tb, to, none⟩) cT y j _ ?_
        rintro _ ⟨z, rfl⟩
        exact arm6 w wr p tg toks.length ks.length (some ⟨tb, to, none⟩) cT z j t N ub uo cU g3 c3 vb vo cV sb acc hjn hn ht hp d5 d6 cU0 cI cQ cV0 hN1 hN2 hN3' hsz hR hacc2 _ fun a wv h1 h2 => ⟨h1, h2⟩
      · refine to_arm7 w wr p tg toks.length ks.length (some ⟨tb, to, none⟩) cT y j _ ?_
        rintro _ ⟨z, rfl⟩
        exact arm7 w wr p tg toks.length ks.length (some ⟨tb, to, none⟩) cT z j t N ub uo cU g3 c3 vb vo cV sb acc hjn hn ht hp d5 d6 cU0 cI cQ cV0 hN1 hN2 hN3' hsz hR hacc2 _ fun a wv h1 h2 => ⟨h1, h2⟩
    · obtain ⟨g3, c3, cU0, cI⟩ := one t (by rw [hkn]; rfl)
      obtain ⟨sb, hsb⟩ : ∃ sb : ByteArray, sv (toks.getD t []) = .string sb := ⟨_, rfl⟩
      have hsl : sb.data.toList = toks.getD t [] := by unfold sv at hsb; injection hsb with hsb; rw [← hsb]
      have cQ := (tokc t ht).1
      rw [hsb] at cQ
      have cY0 := cell yb (yo + j) (.string ⟨#[m]⟩) hyb ((hyc j hjn).trans (by rw [hkn]; rfl))
      have hkt : (kAt ks j).ty = 8 := by rw [hkn]; rfl
      rw [hkt, ← hsl]
      rw [← hsl] at hs
      refine to_arm8 w wr p tg toks.length ks.length (some ⟨tb, to, none⟩) cT y j _ ?_
      rintro _ ⟨z, rfl⟩
      exact arm8 w wr p tg toks.length ks.length (some ⟨tb, to, none⟩) cT z j t ub uo cU g3 c3 yb yo cY m sb acc hjn hn ht hp d5 d7 cU0 cI cQ cY0 hs (by rw [← K.bsize, hsl]; exact tokl t) hR hacc2 _ fun a wv h1 h2 => ⟨h1, h2⟩
    · have hI := hU j hjn
      have his : (kAt ks j).is = ts.map (fun (k : Nat) => (k : Int)) := by rw [hkn]; rfl
      rw [his] at hI
      obtain ⟨g3, c3, hus3, hg3, hc3⟩ := hI.lies
      rw [List.length_map] at hus3 hc3
      have cU0 := cell ub (uo + j) (.slice (some ⟨g3, 0, none⟩) ts.length c3) hub ((huc j hjn).trans (by rw [hus3]))
      have cV0 := cell vb (vo + j) (.int .i32 (N : Int)) hvb ((hvc j hjn).trans (by rw [hkn]; rfl))
      have hkt : (kAt ks j).ty = 2 := by rw [hkn]; rfl
      have hpos : 0 < ts.length := List.length_pos_iff.2 hts0
      have htg : tg < w.heap.size := (tokc (ts.getD 0 0) (hts2 _ (by rw [List.getD, List.getElem?_eq_getElem hpos]; exact List.getElem_mem hpos))).2
      rw [hkt]
      refine to_arm2 w wr p tg toks.length ks.length (some ⟨tb, to, none⟩) cT y j _ ?_
      rintro _ ⟨z, rfl⟩
      refine arm2 w wr p tg ks.length (some ⟨tb, to, none⟩) cT z j N ub uo cU g3 c3 vb vo cV toks ts acc hjn hn hp hub hvb hpos d5 d6 cU0 cV0 hts1 hts2 tokl tokn hg3 htg (fun k hk2 => ?_) (fun t ht => (tokc t ht).1) hN1 hN2 hol hR hacc2 _ fun a wv h1 h2 => ⟨h1, h2⟩
      refine cell g3 k _ hg3 ((hc3 k hk2).trans ?_)
      simp [List.getD, hk2]
  · intro hty y
    rcases ho with ⟨_, rfl⟩ | ⟨h3, _⟩ | ⟨t, N, ty, hkn, _, _, _, _, ho⟩ | ⟨t, m, hkn, _⟩ | ⟨ts, N, hkn, _⟩
    · obtain ⟨sb, hsb⟩ : ∃ sb : ByteArray, sv (D.getD j []) = .string sb := ⟨_, rfl⟩
      have hsl : sb.data.toList = D.getD j [] := by unfold sv at hsb; injection hsb with hsb; rw [← hsb]
      have hjD : j < D.length := by omega
      have cA0 := cell ab (ao + j) (.string sb) hab ((hac j hjD).trans (by rw [← hsb]; simp [List.getD, hjD]))
      have hsz : sb.size ≤ 1000 := by rw [← K.bsize, hsl]; exact hDl _ (by rw [List.getD, List.getElem?_eq_getElem hjD]; exact List.getElem_mem hjD)
      rw [← hsl] at h62 ⊢
      by_cases h1 : sb.size = 1
      · exact word1 w wr p tg toks.length ks.length (some ⟨tb, to, none⟩) cT y j D.length ab ao cA sb acc hjD d2 cA0 hsz hR hacc2 h1 h62 _ fun a wv h1 h2 => ⟨h1, h2⟩
      · exact word2 w wr p tg toks.length ks.length (some ⟨tb, to, none⟩) cT y j D.length ab ao cA sb acc hjD d2 cA0 hsz hR hacc2 h1 _ fun a wv h1 h2 => ⟨h1, h2⟩
    · rw [h3] at hty; cases hty
    · have hkt : (kAt ks j).ty = ty := by rw [hkn]; rfl
      rw [hkt] at hty
      subst hty
      unfold Two at ho
      rcases ho with ⟨h, _⟩ | ⟨h, _⟩ | ⟨h, _⟩ | ⟨h, _⟩ | ⟨h, _⟩ | ⟨h, _⟩ <;> cases h
    · rw [hkn] at hty; cases hty
    · rw [hkn] at hty; cases hty
end Go.Proofs.YtocfcajafkkhdaaDoor
