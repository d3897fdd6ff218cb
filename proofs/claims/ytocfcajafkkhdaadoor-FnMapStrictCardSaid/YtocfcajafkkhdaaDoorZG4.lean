/-
  What a transform's four rows hold while they grow; the places of a source's wildcards.
  NewSubjectTransformWithStrict.
  NewSubjectTransformWithStrict at a source without wildcards and a destination of words.
-/
import Derived.Test.YtocfcajafkkhdaaDoorZG2
import Derived.Deep.Cut
/- Ns -/
section
namespace Go.Proofs.YtocfcajafkkhdaaDoor
open Go.RowKit

def Kn.tyV (k : Kn) : Value := .int .i16 k.ty
def Kn.argV (k : Kn) : Value := .int .i32 k.arg
def Kn.strV (k : Kn) : Value := .string k.str
def kAt (ks : List Kn) (j : Nat) : Kn := ks.getD j Kn.no
theorem kAt_lt {a : List Kn} {k : Kn} {j : Nat} (h : j < a.length) : kAt (a ++ [k]) j = kAt a j := by simp [kAt, List.getD, List.getElem?_append_left h]
theorem kAt_eq {a : List Kn} {k : Kn} : kAt (a ++ [k]) a.length = k := by simp [kAt, List.getD]
theorem getD_lt {α : Type} {a : List α} {x d : α} {j : Nat} (h : j < a.length) : (a ++ [x]).getD j d = a.getD j d := by simp [List.getD, List.getElem?_append_left h]
theorem getD_eq {α : Type} {a : List α} {x d : α} : (a ++ [x]).getD a.length d = x := by simp [List.getD]

/-- the row of slices of places -/
def IsRow (B : Nat) (w : World) (v : Value) (ks : List Kn) : Prop := ∃ us : List Value, w.ownsRow B 39 1 v ks.length us ∧ ∀ j, j < ks.length → Ints w (us.getD j undef) (kAt ks j).is
/-- the four rows -/
structure NtP (B : Nat) (W w : World) (a b c d : List Kn) (v16 v17 v18 v19 : Value) : Prop where
  below : Below B W w
  le : B ≤ w.heap.size
  r16 : w.ownsRow B 82 1 v16 a.length (a.map Kn.tyV)
  r17 : IsRow B w v17 b
  r18 : w.ownsRow B 21 1 v18 c.length (c.map Kn.argV)
  r19 : w.ownsRow B 9 1 v19 d.length (d.map Kn.strV)
theorem NtP.start {B : Nat} {W w : World} (h : Below B W w) (hB : B ≤ w.heap.size) : NtP B W w [] [] [] [] (.slice none 0 0) (.slice none 0 0) (.slice none 0 0) (.slice none 0 0) :=
  ⟨h, hB, World.ownsRow_nil _ _ _ _, ⟨[], World.ownsRow_nil _ _ _ _, fun j hj => by simp at hj⟩, World.ownsRow_nil _ _ _ _, World.ownsRow_nil _ _ _ _⟩
variable {B : Nat} {W w w' : World} {a b c d : List Kn} {v16 v17 v18 v19 : Value}
theorem IsRow.keep {v : Value} {ks : List Kn} (h : IsRow B w v ks) {e : TypeId} (hr : Rest e w w') (h1 : (3 : TypeId) ≠ e) (h2 : (39 : TypeId) ≠ e) : IsRow B w' v ks := by
  obtain ⟨us, h3, h4⟩ := h
  exact ⟨us, hr.row h3 h2, fun j hj => (h4 j hj).keep hr h1⟩
theorem NtP.grow (h : NtP B W w a b c d v16 v17 v18 v19) (hb : Below w.heap.size w w') : NtP B W w' a b c d v16 v17 v18 v19 :=
  ⟨h.below.trans (hb.mono h.le), Nat.le_trans h.le hb.size, (Rest.below (e := 0) hb).row h.r16 (by decide), h.r17.keep (Rest.below (e := 0) hb) (by decide) (by decide), (Rest.below (e := 0) hb).row h.r18 (by decide), (Rest.below (e := 0) hb).row h.r19 (by decide)⟩
theorem NtP.all (h : NtP B W w a b c d v16 v17 v18 v19) {base z n : Nat} {u x : Value} {ps : List Value} {e : TypeId} (ho : w.ownsRow base e z u n ps) (hB : B ≤ base) (hg : (w.alloc (.cells #[x] e)).grownBy w' u.ownBlock) : Below B W w' ∧ B ≤ w'.heap.size :=
  ⟨(h.below.alloc h.le _).grown hg (by simp; have := h.le; omega) (fun g hg2 => Nat.le_trans hB (ho.lt g hg2).1), by have := hg.size; have := h.le; simp at *; omega⟩
theorem NtP.app16 (h : NtP B W w a b c d v16 v17 v18 v19) {v : Value} {k : Kn} (ho : w'.ownsRow B 82 1 v (a.length + 1) (a.map Kn.tyV ++ [k.tyV])) (hg : (w.alloc (.cells #[k.tyV] 82)).grownBy w' v16.ownBlock) : NtP B W w' (a ++ [k]) b c d v v17 v18 v19 := by
  obtain ⟨h1, h2⟩ := h.all h.r16 (Nat.le_refl _) hg
  have hr := Rest.app h.r16 hg
  refine ⟨h1, h2, ?_, h.r17.keep hr (by decide) (by decide), hr.row h.r18 (by decide), hr.row h.r19 (by decide)⟩
  rw [List.length_append, List.map_append]
  exact ho
theorem NtP.app18 (h : NtP B W w a b c d v16 v17 v18 v19) {v : Value} {k : Kn} (ho : w'.ownsRow B 21 1 v (c.length + 1) (c.map Kn.argV ++ [k.argV])) (hg : (w.alloc (.cells #[k.argV] 21)).grownBy w' v18.ownBlock) : NtP B W w' a b (c ++ [k]) d v16 v17 v v19 := by
  obtain ⟨h1, h2⟩ := h.all h.r18 (Nat.le_refl _) hg
  have hr := Rest.app h.r18 hg
  refine ⟨h1, h2, hr.row h.r16 (by decide), h.r17.keep hr (by decide) (by decide), ?_, hr.row h.r19 (by decide)⟩
  rw [List.length_append, List.map_append]
  exact ho
theorem NtP.app19 (h : NtP B W w a b c d v16 v17 v18 v19) {v : Value} {k : Kn} (ho : w'.ownsRow B 9 1 v (d.length + 1) (d.map Kn.strV ++ [k.strV])) (hg : (w.alloc (.cells #[k.strV] 9)).grownBy w' v19.ownBlock) : NtP B W w' a b c (d ++ [k]) v16 v17 v18 v := by
  obtain ⟨h1, h2⟩ := h.all h.r19 (Nat.le_refl _) hg
  have hr := Rest.app h.r19 hg
  refine ⟨h1, h2, hr.row h.r16 (by decide), h.r17.keep hr (by decide) (by decide), hr.row h.r18 (by decide), ?_⟩
  rw [List.length_append, List.map_append]
  exact ho
theorem NtP.app17 (h : NtP B W w a b c d v16 v17 v18 v19) {v x : Value} {k : Kn} {us : List Value} (hu : w.ownsRow B 39 1 v17 b.length us) (hus : ∀ j, j < b.length → Ints w (us.getD j undef) (kAt b j).is) (hx : Ints w x k.is)
    (ho : w'.ownsRow B 39 1 v (b.length + 1) (us ++ [x])) (hg : (w.alloc (.cells #[x] 39)).grownBy w' v17.ownBlock) : NtP B W w' a (b ++ [k]) c d v16 v v18 v19 := by
  obtain ⟨h1, h2⟩ := h.all hu (Nat.le_refl _) hg
  have hr := Rest.app hu hg
  have hl : us.length = b.length := by have := hu.1; simpa using this
  refine ⟨h1, h2, hr.row h.r16 (by decide), ⟨us ++ [x], by rw [List.length_append]; exact ho, fun j hj => ?_⟩, hr.row h.r18 (by decide), hr.row h.r19 (by decide)⟩
  rw [List.length_append, List.length_singleton] at hj
  rcases Nat.lt_or_ge j b.length with hlt | hge
  · rw [getD_lt (by omega), kAt_lt hlt]
    exact (hus j hlt).keep hr (by decide)
  · obtain rfl : j = b.length := by omega
    rw [kAt_eq, ← hl, getD_eq]
    exact hx.keep hr (by decide)

/-! ## the places of the wildcards -/
def pcs (ts : List (List UInt8)) (k : Nat) : List Nat := (List.range k).filter (fun j => ts.getD j [] == [42])
theorem pcs_zero (ts : List (List UInt8)) : pcs ts 0 = [] := rfl
theorem pcs_succ (ts : List (List UInt8)) (k : Nat) : pcs ts (k + 1) = pcs ts k ++ if ts.getD k [] = [42] then [k] else [] := by
  unfold pcs
  rw [List.range_succ, List.filter_append]
  congr 1
  rw [List.filter_cons, List.filter_nil]
  by_cases h : ts.getD k [] = [42]
  · rw [if_pos (beq_iff_eq.2 h), if_pos h]
  · rw [if_neg (fun e => h (beq_iff_eq.1 e)), if_neg h]
theorem pcs_length (ts : List (List UInt8)) : ∀ k, k ≤ ts.length → (pcs ts k).length = pwcs (ts.take k)
  | 0, _ => rfl
  | k + 1, h => by
    have ih := pcs_length ts k (by omega)
    rw [pcs_succ, List.length_append, ih, List.take_succ_eq_append_getElem h, pwcs_snoc]
    have e : ts.getD k [] = ts[k] := by simp [List.getD, show k < ts.length from h]
    rw [e]
    split <;> rfl
theorem pcs_lt (ts : List (List UInt8)) (k j : Nat) (h : j ∈ pcs ts k) : j < k := by
  unfold pcs at h
  simpa using (List.mem_filter.1 h).1
/-- what a token of a destination becomes beside a source -/
def Kn.at_ (ts : List (List UInt8)) (k : Kn) : Kn := if k.ty = 0 then Kn.no else { k with is := k.is.map (fun i => ((pcs ts ts.length).getD (i.toNat - 1) 0 : Int)) }
/-- a token's numbers are of wildcards that there are -/
def Kn.fits (n : Nat) (k : Kn) : Prop := (k.ty = 0 ∨ (k.is ≠ [] ∧ ∀ i ∈ k.is, 1 ≤ i ∧ i ≤ (n : Int))) ∧ k.is.length ≤ 1000
end Go.Proofs.YtocfcajafkkhdaaDoor
end
/- Nt -/
section
namespace Go.Proofs.YtocfcajafkkhdaaDoor
open Go.RowKit

theorem new_cell' (w : World) (u : Value) (e : TypeId) (g : Nat) (hg : g = w.heap.size) : (w.alloc (.cells #[u] e)).cell? ⟨g, 0, none⟩ = some u := by subst hg; exact new_cell w u e
/-- a transform in memory -/
structure TrAt (w : World) (p : Nat) (src dest : ByteArray) (S D : List (List UInt8)) (ks : List Kn) : Prop where
  ex : ∃ A cA X cX T cT U cU V cV Y cY, w.heap[p]? = some (.cells #[.string src, .string dest, .slice A D.length cA, .slice X S.length cX, .slice T ks.length cT, .slice U ks.length cU, .slice V ks.length cV, .slice Y ks.length cY] 66 (0, 0)) ∧
    K.Lies w A D.length (fun j => (D.map sv).getD j undef) ∧ K.Lies w X S.length (fun j => (S.map sv).getD j undef) ∧ K.Lies w T ks.length (fun j => (kAt ks j).tyV) ∧
    (∃ us : List Value, us.length = ks.length ∧ K.Lies w U ks.length (fun j => us.getD j undef) ∧ ∀ j, j < ks.length → Ints w (us.getD j undef) (kAt ks j).is) ∧
    K.Lies w V ks.length (fun j => (kAt ks j).argV) ∧ K.Lies w Y ks.length (fun j => (kAt ks j).strV)
def nph (ks : List Kn) : Nat := (ks.map fun k => if k.ty = 0 then 0 else k.is.length).sum
theorem lies_map {w : World} {A : Option Addr} {n : Nat} {f : Kn → Value} {ks : List Kn} (h : K.Lies w A n (fun j => (ks.map f).getD j undef)) (hl : ks.length = n := by rfl) : K.Lies w A n (fun j => f (kAt ks j)) := by
  intro hn
  obtain ⟨ab, ao, e, hlt, hc⟩ := h hn
  refine ⟨ab, ao, e, hlt, fun j hj => ?_⟩
  rw [hc j hj]
  have hj2 : j < ks.length := by omega
  simp [kAt, List.getD, hj2]
/-- a token's places, as they are gathered -/
def StRel (wp wi : World) (S : List (List UInt8)) (is : List Int) (j : Nat) (v : Value) : Prop :=
  Below wp.heap.size wp wi ∧ wi.ownsRow wp.heap.size 3 1 v j (((is.take j).map (fun i => ((pcs S S.length).getD (i.toNat - 1) 0 : Int))).map (Value.int .i64))
theorem nph_le {ks : List Kn} (h : ∀ k ∈ ks, k.is.length ≤ 1000) {n : Nat} (hn : ks.length ≤ n) : nph ks ≤ 1000 * n := by
  induction ks generalizing n with
  | nil => simp [nph]
  | cons k r ih =>
    cases n with
    | zero => simp at hn
    | succ n =>
      have h1 := ih (fun k hk => h k (List.mem_cons_of_mem _ hk)) (n := n) (by simpa using hn)
      have h2 := h k (by simp)
      unfold nph at *
      simp only [List.map_cons, List.sum_cons]
      split <;> omega
def NtPost (src dest : ByteArray) (S D : List (List UInt8)) (ks : List Kn) (w : World) (e : Ending) (w' : World) : Prop :=
  Below w.heap.size w w' ∧ ∃ p, e = .returned (.tuple #[.pointer (some ⟨p, 0, none⟩), .nilIface]) ∧ w.heap.size ≤ p ∧ TrAt w' p src dest S D (ks.map (Kn.at_ S))
theorem kAt_mem {ks : List Kn} {k : Nat} (h : k < ks.length) : kAt ks k ∈ ks := by simp [kAt, List.getD, h]
/-- what the loop over the destination's tokens holds -/
def LpRel (W0 : World) (m : Nat) (S : List (List UInt8)) (ks : List Kn) (k : Nat) (v16 v17 v18 v19 : Value) (wq : World) : Prop :=
  NtP W0.heap.size W0 wq ((ks.take k).map (Kn.at_ S)) ((ks.take k).map (Kn.at_ S)) ((ks.take k).map (Kn.at_ S)) ((ks.take k).map (Kn.at_ S)) v16 v17 v18 v19 ∧ StiP wq m (pcs S S.length)
set_option maxHeartbeats 8000000 in
set_option maxRecDepth 100000 in
theorem nt_wild (src dest : ByteArray) (S D : List (List UInt8)) (ks : List Kn) (w : World) (h0 : 0 < src.size) (h1 : 0 < dest.size) (h2 : src.size ≤ 100000) (h3 : dest.size ≤ 100000)
    (hS : sp 46 src.data.toList = S) (hD : sp 46 dest.data.toList = D) (tS : Toks S) (tD : Toks D) (hp : pwcs D = 0) (hf : fwc S = fwc D) (hw : 0 < pwcs S ∨ fwc S = true)
    (hk : ks.length = D.length) (hks : ∀ j, j < ks.length → ∀ w, Calls Tryd.prog 39 #[sv (D.getD j [])] w (PhPost (kAt ks j) w)) (hfit : ∀ k ∈ ks, k.fits (pwcs S)) :
    Calls Tryd.prog 28 #[.string src, .string dest, .bool false] w (NtPost src dest S D ks w) := by
  have i1 := info_any src w h2 (by rw [hS]; exact tS)
  have i2 := fun w => info_any dest w h3 (by rw [hD]; exact tD)
  rw [hS] at i1
  rw [hD] at i2
  unfold InfoPost at i1 i2
  rw [hp] at i2
  have hlS := sp_length 46 src.data.toList
  have hlD := sp_length 46 dest.data.toList
  rw [hS, K.bsize] at hlS
  rw [hD, K.bsize] at hlD
  have ne0 : ∀ (s : ByteArray), 0 < s.size → s.toList.isEmpty = false := fun s hs => by
    rw [ByteArray.toList_eq, List.isEmpty_eq_false_iff]
    intro e
    have := K.bsize s
    rw [e] at this
    simp at this
    omega
  have e0 := ne0 src h0
  have e1 := ne0 dest h1
  have hmm := @run_makeMap Tryd.prog
  have HK := Lib.hid hk
  have HKS := Lib.hid hks
  have HFIT := Lib.hid hfit
  have HW := Lib.hid hw
  rw [← hf] at i2
  clear ne0 hS hD tS tD hp hf hk hks hfit hw
  generalize hfv : fwc S = fw at i1 i2 HW
  generalize hnv : pwcs S = np at i1 HW HFIT
  have HFV := Lib.hid hfv
  have HNV := Lib.hid hnv
  clear hfv hnv
  go_enter Tryd.func28, Tryd.ntmps28
  go_wp2_with fail
  refine i1.mono ?_
  rintro e w1 ⟨vs, rfl, hb1, ho1⟩
  have HO1 := Lib.hid (And.intro hb1 ho1)
  clear hb1 ho1 i1
  go_wp2_with fail
  refine (i2 w1).mono ?_
  rintro e w2 ⟨vd, rfl, hb2, ho2⟩
  have HO2 := Lib.hid (And.intro hb2 ho2)
  clear hb2 ho2 i2
  go_upto_region 13 with (fail)
  obtain ⟨AS, cS, rfl, hncS, hlS', hAS, hbS⟩ := K.lies_of_own HO1.out.2
  obtain ⟨AD, cD, rfl, hncD, hlD', hAD, hbD⟩ := K.lies_of_own HO2.out.2
  have HAS := Lib.hid (And.intro hAS hbS)
  have HAD := Lib.hid (And.intro hAD hbD)
  clear hAS hbS hAD hbD hlS' hlD'
  have hbS2 : ∀ b o, b < w1.heap.size → w2.cell? ⟨b, o, none⟩ = w1.cell? ⟨b, o, none⟩ := fun b o h => HO2.out.1.cell (p := ⟨b, o, none⟩) h
  have HBS2 := Lib.hid hbS2
  clear hbS2
  have hsz1 := HO1.out.1.size
  have hsz2 := HO2.out.1.size
  have hcase : (0 : Int) < (np : Int) ∨ (¬ (0 : Int) < (np : Int) ∧ fw = true) := by
    rcases HW.out with h | h
    · exact .inl (by omega)
    · by_cases h2 : (0 : Int) < (np : Int)
      · exact .inl h2
      · exact .inr ⟨h2, h⟩
  clear HW
  rcases hcase with hw | ⟨hw, rfl⟩
  all_goals
    go_upto_region 16 with (fail)
    clear hw
    go_loopg [83] S.length (fun gk i wr => ∃ k : Nat, gk + k = S.length ∧ i = .int .i64 k ∧ Hid (StiP wr w2.heap.size (pcs S k) ∧ Below w2.heap.size w2 wr ∧ w2.heap.size < wr.heap.size))
    case atStart => exact ⟨0, by omega, rfl, Lib.hid ⟨StiP.new w2, (Below.refl _ _).alloc (Nat.le_refl _) _, by simp⟩⟩
    case round =>
      obtain ⟨k, hgk, rfl, HI⟩ := hrel
      by_cases hlt : k < S.length
      · obtain ⟨ab, ao, rfl, hab, hcs⟩ := HAS.out.1 (by omega)
        have c1 : wr.cell? ⟨ab, ao + k, none⟩ = some (sv (S.getD k [])) := by
          have h2 := HBS2.out ab (ao + k) hab
          have h3 := HI.out.2.1.cell (p := ⟨ab, ao + k, none⟩) (show ab < w2.heap.size by omega)
          rw [h3, h2, hcs k hlt]
          simp [List.getD, hlt]
        have hpc := pcs_succ S k
        have hkl : (pcs S k).length ≤ k := by
          have := pcs_length S k (by omega)
          have h4 := List.countP_le_length (p := (· == [42])) (l := S.take k)
          rw [List.length_take] at h4
          rw [this]; unfold pwcs; omega
        have HPC := Lib.hid hpc
        clear hcs hpc
        generalize htk : S.getD k [] = t at c1 HPC
        obtain ⟨tb, htb⟩ : ∃ tb : ByteArray, (⟨t.toArray⟩ : ByteArray) = tb := ⟨_, rfl⟩
        have htl : tb.data.toList = t := by rw [← htb]
        unfold sv at c1
        rw [htb] at c1
        have HGK := Lib.hid hgk
        have HTL := Lib.hid htl
        clear hgk htl htb htk
        by_cases h42 : t = [42]
        · have e42 : tb = ⟨#[42]⟩ := ByteArray.ext (Array.ext' (by rw [HTL.out, h42]))
          have HX := Lib.hid h42
          subst e42
          clear h42
          obtain ⟨D0, m1, m2, m3, m4⟩ := HI.out.1
          have HM := Lib.hid (And.intro m1 (And.intro m2 (And.intro m3 m4)))
          clear m1 m2 m3 m4
          have hszD : Maps.size D0 ≤ 100001 := by have := HM.out.2.1; omega
          go_wp2_with (first | (at_len; refine wpList_len_own _ rfl _ 81 rfl 3 3 Tryd.underlying81 (plainElem Tryd.prog 3) w2.heap.size _ D0 rfl HM.out.1 ?_) | (at_mapUpdate; refine wpList_mapUpdate_own _ rfl _ _ _ 81 rfl 3 3 K3 Tryd.underlying81 (plainElem Tryd.prog 3) w2.heap.size _ D0 rfl HM.out.1 (by unfold maxLen; omega) _ _ (ik (((pcs S k).length : Int) + 1)) rfl rfl (by rw [HM.out.2.1]; exact ik_key (by omega)) (.lit (.int .i64 (k : Int))) [] (Go.plainElem_int Tryd.underlying3 (by simp [Lit.wf, IntKind.min, IntKind.max, IntKind.signed, IntKind.bits]; omega)) ?_; intro w3 hown3 hgrow3))
          have HI3 := Lib.hid (And.intro (StiP.put HM.out.1 HM.out.2.1 HM.out.2.2.1 HM.out.2.2.2 k hown3) (And.intro (HI.out.2.1.grown hgrow3 (Nat.le_of_lt HI.out.2.2) (fun g hg => by cases hg; exact Nat.le_refl _)) (Nat.lt_of_lt_of_le HI.out.2.2 hgrow3.size)))
          clear hown3 hgrow3
          go_roundg (gk - 1)
          case measure => have := HGK.out; omega
          case rel => exact ⟨k + 1, by have := HGK.out; omega, by go_num, by rw [HPC.out, if_pos HX.out]; exact HI3⟩
        · have HX := Lib.hid h42
          by_cases h1 : tb.size = 1
          · have h1' : 0 < tb.size := by omega
            have n42 : tb[0]'h1' ≠ 42 := fun e => h42 (by
              rw [← HTL.out]
              have hb := K.bsize tb
              rw [h1] at hb
              obtain ⟨x, hx⟩ := List.length_eq_one_iff.1 hb
              have e0 : tb.data.toList[0]? = some tb[0] := get_at (by omega)
              rw [hx] at e0 ⊢
              rw [e] at e0
              simpa using e0)
            have b42 : ((((tb[0]'h1').toNat : Nat) : Int) == 42) = false := ne_int n42
            have z1 : ((tb.size : Int) == 1) = true := by rw [h1]; rfl
            have H1 := Lib.hid h1
            clear h42 h1
            go_wp2_with fail
            go_roundg (gk - 1)
            case measure => have := HGK.out; omega
            case rel => exact ⟨k + 1, by have := HGK.out; omega, by go_num, by rw [HPC.out, if_neg HX.out, List.append_nil]; exact HI⟩
          · have z1 : ((tb.size : Int) == 1) = false := by rw [beq_eq_false_iff_ne]; omega
            clear h42 h1
            go_wp2_with fail
            go_roundg (gk - 1)
            case measure => have := HGK.out; omega
            case rel => exact ⟨k + 1, by have := HGK.out; omega, by go_num, by rw [HPC.out, if_neg HX.out, List.append_nil]; exact HI⟩
      · obtain rfl : k = S.length := by omega
        clear hlt hgk
        go_upto_region 23 with (fail)
        obtain ⟨W0, hW0⟩ : ∃ W0 : World, W0 = wr := ⟨_, rfl⟩
        subst hW0
        go_loopg [16, 17, 18, 19, 23, 104] D.length (fun gk v16 v17 v18 v19 nv i wq => ∃ k : Nat, gk + k = D.length ∧ i = .int .i64 k ∧ nv = .int .i64 (nph (ks.take k)) ∧ Hid (LpRel W0 w2.heap.size S ks k v16 v17 v18 v19 wq))
        case atStart => exact ⟨0, by omega, rfl, rfl, Lib.hid ⟨NtP.start (Below.refl _ _) (Nat.le_refl _), HI.out.1⟩⟩
        case round =>
          obtain ⟨k, hgk, rfl, rfl, HL⟩ := hrel
          by_cases hlt : k < D.length
          · obtain ⟨ab, ao, rfl, hab, hcs⟩ := HAD.out.1 (by omega)
            have hkl : k < ks.length := by have := HK.out; omega
            have h39 := HKS.out k hkl wr
            have c1 : wr.cell? ⟨ab, ao + k, none⟩ = some (sv (D.getD k [])) := by
              have h3 := HI.out.2.1.cell (p := ⟨ab, ao + k, none⟩) hab
              have h4 := HL.out.1.below.cell (p := ⟨ab, ao + k, none⟩) (show ab < W0.heap.size by have := HI.out.2.2; omega)
              rw [h4, h3, hcs k hlt]
              simp [List.getD, hlt]
            obtain ⟨tb, htb⟩ : ∃ tb : ByteArray, sv (D.getD k []) = .string tb := ⟨_, rfl⟩
            rw [htb] at c1 h39
            have hmem := kAt_mem hkl
            have hF := HFIT.out _ hmem
            have hkk : ks.take (k + 1) = ks.take k ++ [kAt ks k] := by
              rw [List.take_succ_eq_append_getElem hkl]; simp [kAt, List.getD, hkl]
            have HKK := Lib.hid hkk
            clear hcs htb hmem hkk
            generalize kAt ks k = kn at h39 hF HKK
            have HGK := Lib.hid hgk
            have HF := Lib.hid hF
            clear hgk hF
            go_wp2_with fail
            refine h39.mono ?_
            rintro e wp ⟨gi, ci, rfl, hbp, hgi, hli⟩
            have HP := Lib.hid (And.intro hbp (And.intro hgi hli))
            clear hbp hgi hli h39 c1
            obtain ⟨ty, is, arg, str⟩ := kn
            by_cases hty : ty = 0
            · subst hty
              obtain ⟨r1, r2⟩ := HL.out
              obtain ⟨us, hu, hus⟩ := r1.r17
              have N0 := Lib.hid (r1.grow HP.out.1)
              have M0 := Lib.hid (r2.rest (Rest.below (e := 0) HP.out.1))
              clear r1 r2 hu hus
              have hgb : ((List.take k ks).map (Kn.at_ S)).length ≤ 100000 := by rw [List.length_map, List.length_take]; have := HGK.out; omega
              go_upto_region 32 with (fail)
              all_goals
                go_upto_region 33 with (at_builtin; refine wpList_app1 info82 Tryd.underlying62 rfl (by decide) rfl (.tmp 133) (.tmp 134) rfl W0.heap.size _ _ _ rfl (N0.out.r16.alloc _) _ _ _ rfl (new_cell' _ _ _ _ (by simp)) rfl hgb (Nat.le_trans N0.out.le (by simp)) ?_; intro v1 wa1 hown hgrow)
                have N1 := Lib.hid (N0.out.app16 (k := Kn.no) hown hgrow)
                have M1 := Lib.hid (M0.out.rest (Rest.app N0.out.r16 hgrow))
                clear hown hgrow
                have N2 := Lib.hid (N1.out.grow (w' := wa1.alloc (.cells #[.int .i64 (-1)] 3)) ((Below.refl _ _).alloc (Nat.le_refl _) _))
                have M2 := Lib.hid (M1.out.rest (Rest.below (e := 0) (w' := wa1.alloc (.cells #[.int .i64 (-1)] 3)) ((Below.refl _ _).alloc (Nat.le_refl _) _)))
                have J2 := Lib.hid (Ints.new wa1 (-1))
                obtain ⟨us, hu, hus⟩ := N2.out.r17
                have HU := Lib.hid (And.intro hu hus)
                clear hu hus
                go_upto_region 34 with (at_builtin; refine wpList_app1 info39 Tryd.underlying63 rfl (by decide) rfl (.tmp 136) (.tmp 138) rfl W0.heap.size _ _ _ rfl (HU.out.1.alloc _) _ _ _ rfl (new_cell' _ _ _ _ (by simp)) rfl hgb (Nat.le_trans N2.out.le (by simp)) ?_; intro v3 wa3 hown hgrow)
                have N3 := Lib.hid (N2.out.app17 (k := Kn.no) HU.out.1 HU.out.2 J2.out hown hgrow)
                have M3 := Lib.hid (M2.out.rest (Rest.app HU.out.1 hgrow))
                clear hown hgrow
                go_upto_region 35 with (at_builtin; refine wpList_app1 info21 Tryd.underlying64 rfl (by decide) rfl (.tmp 140) (.tmp 141) rfl W0.heap.size _ _ _ rfl (N3.out.r18.alloc _) _ _ _ rfl (new_cell' _ _ _ _ (by simp)) rfl hgb (Nat.le_trans N3.out.le (by simp)) ?_; intro v4 wa4 hown hgrow)
                have N4 := Lib.hid (N3.out.app18 (k := Kn.no) hown hgrow)
                have M4 := Lib.hid (M3.out.rest (Rest.app N3.out.r18 hgrow))
                clear hown hgrow
                go_upto_region 49 with (at_builtin; refine wpList_app1 info9 Tryd.underlying22 rfl (by decide) rfl (.tmp 143) (.tmp 144) rfl W0.heap.size _ _ _ rfl (N4.out.r19.alloc _) _ _ _ rfl (new_cell' _ _ _ _ (by simp)) rfl hgb (Nat.le_trans N4.out.le (by simp)) ?_; intro v5 wa5 hown hgrow)
                have N5 := Lib.hid (N4.out.app19 (k := Kn.no) hown hgrow)
                have M5 := Lib.hid (M4.out.rest (Rest.app N4.out.r19 hgrow))
                clear hown hgrow
                go_wp2_with fail
                go_roundg (gk - 1)
                case measure => have := HGK.out; omega
                case rel =>
                  refine ⟨k + 1, by have := HGK.out; omega, by go_num, ?_, ?_⟩
                  · rw [HKK.out]; simp [nph]
                  · refine Lib.hid ?_
                    unfold LpRel
                    rw [HKK.out, List.map_append]
                    exact ⟨N5.out, M5.out⟩
            · obtain ⟨r1, r2⟩ := HL.out
              have N0 := Lib.hid (r1.grow HP.out.1)
              have M0 := Lib.hid (r2.rest (Rest.below (e := 0) HP.out.1))
              have HSW := Lib.hid (Nat.le_trans r1.le HP.out.1.size)
              clear r1 r2
              have hgb : ((List.take k ks).map (Kn.at_ S)).length ≤ 100000 := by rw [List.length_map, List.length_take]; have := HGK.out; omega
              have bty : (ty == 0) = false := by rw [beq_eq_false_iff_ne]; exact hty
              have hnp : nph (ks.take (k + 1)) = nph (ks.take k) + is.length := by rw [HKK.out]; simp [nph, hty]
              have hnb : nph (ks.take k) ≤ 1000 * k := nph_le (fun k hk => (HFIT.out k (List.mem_of_mem_take hk)).2) (by rw [List.length_take]; omega)
              have hisl : is.length ≤ 1000 := HF.out.2
              have HNP := Lib.hid hnp
              clear hnp
              go_upto_region 39 with (fail)
              have hpn : (pcs S S.length).length = np := by rw [pcs_length S _ (Nat.le_refl _), List.take_length, HNV.out]
              have HPN := Lib.hid hpn
              have hnS : np ≤ 100001 := by
                have h4 := List.countP_le_length (p := (· == [42])) (l := S)
                have h5 := HNV.out
                unfold pwcs at h5
                omega
              clear hpn
              obtain ⟨gq, hgq⟩ : ∃ gq : Nat, gq = gk := ⟨_, rfl⟩
              subst hgq
              go_loopg [31, 152] is.length (fun g2 sv_ i2 wi => ∃ j : Nat, g2 + j = is.length ∧ i2 = .int .i64 j ∧ Hid (StRel wp wi S is j sv_))
              case atStart => exact ⟨0, by omega, rfl, Lib.hid ⟨Below.refl _ _, World.ownsRow_nil _ _ _ _⟩⟩
              case round =>
                obtain ⟨j, hgj, rfl, HR⟩ := hrel
                have HGJ := Lib.hid hgj
                by_cases hlt2 : j < is.length
                · clear hgj
                  have hij : 1 ≤ is.getD j 0 ∧ is.getD j 0 ≤ (np : Int) := by
                    rcases HF.out.1 with h | h
                    · exact absurd h hty
                    · exact h.2 _ (by simp [List.getD, hlt2])
                  have c2 : wr.cell? ⟨gi, 0 + j, none⟩ = some (.int .i64 (is.getD j 0)) := by
                    obtain ⟨ab', ao', e', lt', hc'⟩ := HP.out.2.2 (by omega)
                    injection e' with e'
                    injection e' with e1' e2' _
                    subst e1' e2'
                    exact (HR.out.1.cell (p := ⟨gi, 0 + j, none⟩) lt').trans (hc' j hlt2)
                  rw [Nat.zero_add] at c2
                  have hkk2 : is.take (j + 1) = is.take j ++ [is.getD j 0] := by
                    rw [List.take_succ_eq_append_getElem hlt2]; simp [List.getD, hlt2]
                  have HK2 := Lib.hid hkk2
                  clear hkk2
                  generalize is.getD j 0 = ii at c2 hij HK2
                  obtain ⟨hi1, hi2⟩ := hij
                  first | (exfalso; omega) | skip
                  all_goals
                    obtain ⟨D0, m1, m2, m3, m4⟩ := M0.out.rest (Rest.below (e := 0) HR.out.1)
                    have HM := Lib.hid (And.intro m1 m3)
                    clear m1 m2 m3 m4
                    go_wp2_with (first | (at_lookup; refine wpList_lookup_own_int _ rfl _ _ 81 rfl 3 3 .i64 K3 Tryd.underlying81 Tryd.underlying3 rfl w2.heap.size _ D0 rfl HM.out.1 _ (ik ii) rfl (Maps.keyOf_int_mk Tryd.underlying3 (by simp [Lit.wf, IntKind.min, IntKind.max, IntKind.signed, IntKind.bits]; omega)) ?_; intro cc hat hwc) | (at_builtin; refine wpList_app1 info3 Tryd.underlying39 rfl (by decide) rfl (.tmp 164) (.tmp 168) rfl wp.heap.size _ _ _ rfl (HR.out.2.alloc _) _ _ _ rfl (new_cell' _ _ _ _ (by simp)) rfl (by omega) (Nat.le_trans HR.out.1.size (by simp)) ?_; intro v1 wa hown hgrow))
                    have hcc : cc = (((pcs S S.length).getD (ii.toNat - 1) 0 : Nat) : Int) := by
                      have h5 := HM.out.2 (ii.toNat - 1) (by rw [HPN.out]; omega) (.lit (.int .i64 0))
                      rw [show ((ii.toNat - 1 : Nat) : Int) + 1 = ii by omega, hat] at h5
                      injection h5 with h5
                      injection h5
                    have HR2 := Lib.hid (show StRel wp wa S is (j + 1) v1 from by
                      refine ⟨(HR.out.1.alloc HR.out.1.size _).grown hgrow (by have := HR.out.1.size; simp; omega) (fun g hg => (HR.out.2.lt g hg).1), ?_⟩
                      rw [HK2.out, List.map_append, List.map_append]
                      rw [hcc] at hown
                      exact hown)
                    clear hown hgrow hat hwc hcc
                    go_roundg (gk - 1)
                    case measure => have := HGJ.out; omega
                    case rel => exact ⟨j + 1, by have := HGJ.out; omega, by go_num, HR2⟩
                · obtain rfl : j = is.length := by omega
                  have hI : Ints wr u31 (is.map (fun i => (((pcs S S.length).getD (i.toNat - 1) 0 : Nat) : Int))) := by
                    have h5 := HR.out.2
                    rw [List.take_length] at h5
                    refine Ints.of_row (base := wp.heap.size) (by rw [List.length_map]; exact h5) ?_
                    rcases HF.out.1 with h | h
                    · exact absurd h hty
                    · simpa using h.1
                  obtain ⟨g3, c3, rfl, _, _⟩ := hI.lies
                  have N1 := Lib.hid (N0.out.grow HR.out.1)
                  have M1 := Lib.hid (M0.out.rest (Rest.below (e := 0) HR.out.1))
                  obtain ⟨kn, hkn⟩ : ∃ kn, Kn.at_ S ⟨ty, is, arg, str⟩ = kn := ⟨_, rfl⟩
                  have hkn2 : kn = ⟨ty, is.map (fun i => (((pcs S S.length).getD (i.toNat - 1) 0 : Nat) : Int)), arg, str⟩ := by rw [← hkn]; unfold Kn.at_; rw [if_neg hty]
                  have HKN := Lib.hid hkn
                  have HI3 := Lib.hid (show Ints wr (.slice (some ⟨g3, 0, none⟩) is.length c3) kn.is from by rw [hkn2]; rw [List.length_map] at hI; exact hI)
                  have HT := Lib.hid (show Value.int .i16 ty = kn.tyV from by rw [hkn2]; rfl)
                  have HAG := Lib.hid (show Value.int .i32 arg = kn.argV from by rw [hkn2]; rfl)
                  have HST := Lib.hid (show Value.string str = kn.strV from by rw [hkn2]; rfl)
                  clear hkn hkn2 hI
                  go_upto_region 45 with (fail)
                  go_upto_region 46 with (at_builtin; refine wpList_app1 info82 Tryd.underlying62 rfl (by decide) rfl (.tmp 171) (.tmp 173) rfl W0.heap.size _ _ _ rfl (N1.out.r16.alloc _) _ _ _ rfl (new_cell' _ _ _ _ (by simp)) rfl hgb (Nat.le_trans N1.out.le (by simp)) ?_; intro v2 wa2 hown hgrow)
                  rw [HT.out] at hown hgrow
                  have N2 := Lib.hid (N1.out.app16 (k := kn) hown hgrow)
                  have M2 := Lib.hid (M1.out.rest (Rest.app N1.out.r16 hgrow))
                  have J2 := Lib.hid (HI3.out.keep (Rest.app N1.out.r16 hgrow) (by decide))
                  clear hown hgrow
                  obtain ⟨us, hu, hus⟩ := N2.out.r17
                  have HU := Lib.hid (And.intro hu hus)
                  clear hu hus
                  go_upto_region 47 with (at_builtin; refine wpList_app1 info39 Tryd.underlying63 rfl (by decide) rfl (.tmp 175) (.tmp 177) rfl W0.heap.size _ _ _ rfl (HU.out.1.alloc _) _ _ _ rfl (new_cell' _ _ _ _ (by simp)) rfl hgb (Nat.le_trans N2.out.le (by simp)) ?_; intro v3 wa3 hown hgrow)
                  have N3 := Lib.hid (N2.out.app17 (k := kn) HU.out.1 HU.out.2 J2.out hown hgrow)
                  have M3 := Lib.hid (M2.out.rest (Rest.app HU.out.1 hgrow))
                  clear hown hgrow
                  go_upto_region 48 with (at_builtin; refine wpList_app1 info21 Tryd.underlying64 rfl (by decide) rfl (.tmp 179) (.tmp 181) rfl W0.heap.size _ _ _ rfl (N3.out.r18.alloc _) _ _ _ rfl (new_cell' _ _ _ _ (by simp)) rfl hgb (Nat.le_trans N3.out.le (by simp)) ?_; intro v4 wa4 hown hgrow)
                  rw [HAG.out] at hown hgrow
                  have N4 := Lib.hid (N3.out.app18 (k := kn) hown hgrow)
                  have M4 := Lib.hid (M3.out.rest (Rest.app N3.out.r18 hgrow))
                  clear hown hgrow
                  go_upto_region 49 with (at_builtin; refine wpList_app1 info9 Tryd.underlying22 rfl (by decide) rfl (.tmp 183) (.tmp 185) rfl W0.heap.size _ _ _ rfl (N4.out.r19.alloc _) _ _ _ rfl (new_cell' _ _ _ _ (by simp)) rfl hgb (Nat.le_trans N4.out.le (by simp)) ?_; intro v5 wa5 hown hgrow)
                  rw [HST.out] at hown hgrow
                  have N5 := Lib.hid (N4.out.app19 (k := kn) hown hgrow)
                  have M5 := Lib.hid (M4.out.rest (Rest.app N4.out.r19 hgrow))
                  clear hown hgrow
                  go_wp2_with fail
                  go_roundg (gq - 1)
                  case measure => have := HGK.out; omega
                  case rel =>
                    refine ⟨k + 1, by have := HGK.out; omega, by go_num, ?_, ?_⟩
                    · rw [HNP.out]; go_num
                    · refine Lib.hid ?_
                      unfold LpRel
                      rw [HKK.out, List.map_append, List.map_cons, List.map_nil, HKN.out]
                      exact ⟨N5.out, M5.out⟩
          · obtain rfl : k = D.length := by omega
            obtain ⟨r1, _⟩ := HL.out
            rw [show ks.take D.length = ks from List.take_of_length_le (by rw [HK.out]; omega)] at r1
            obtain ⟨A16, c16, rfl, _, _, l16, _⟩ := K.lies_of_own r1.r16
            obtain ⟨us, hu, hus⟩ := r1.r17
            obtain ⟨A17, c17, rfl, _, hul, l17, _⟩ := K.lies_of_own hu
            obtain ⟨A18, c18, rfl, _, _, l18, _⟩ := K.lies_of_own r1.r18
            obtain ⟨A19, c19, rfl, _, _, l19, _⟩ := K.lies_of_own r1.r19
            have HR1 := Lib.hid (And.intro r1.below r1.le)
            have HU := Lib.hid (And.intro hul hus)
            have H16 := Lib.hid (lies_map l16)
            have H17 := Lib.hid l17
            have H18 := Lib.hid (lies_map l18)
            have H19 := Lib.hid (lies_map l19)
            clear r1 hu hus hul l16 l17 l18 l19
            go_wp2_with fail
            go_ret2
            have hz := HR1.out.2
            have hl1 := HI.out.2.2
            have hbw : Below W0.heap.size W0 (wr.alloc (.cells #[.string src, .string dest, .slice AD D.length cD, .slice AS S.length cS, .slice A16 ks.length c16, .slice A17 ks.length c17, .slice A18 ks.length c18, .slice A19 ks.length c19] 66)) := HR1.out.1.alloc hz _
            have hba : Below wr.heap.size wr (wr.alloc (.cells #[.string src, .string dest, .slice AD D.length cD, .slice AS S.length cS, .slice A16 ks.length c16, .slice A17 ks.length c17, .slice A18 ks.length c18, .slice A19 ks.length c19] 66)) := (Below.refl _ _).alloc (Nat.le_refl _) _
            have hb2 := HI.out.2.1.trans (hbw.mono (Nat.le_of_lt hl1))
            refine ⟨HO1.out.1.trans ((HO2.out.1.trans (hb2.mono hsz2)).mono hsz1), wr.heap.size, rfl, by omega, ⟨AD, cD, AS, cS, A16, c16, A17, c17, A18, c18, A19, c19, by rw [List.length_map]; exact K.heap_alloc_at wr _, ?_, ?_, ?_, ?_, ?_, ?_⟩⟩
            · exact HAD.out.1.below hb2 (Nat.le_refl _)
            · exact (HAS.out.1.below (HO2.out.1) (Nat.le_refl _)).below hb2 (Nat.le_refl _)
            · exact H16.out.below hba (Nat.le_refl _)
            · exact ⟨us, HU.out.1, H17.out.below hba (Nat.le_refl _), fun j hj => (HU.out.2 j hj).below hba⟩
            · exact H18.out.below hba (Nat.le_refl _)
            · exact H19.out.below hba (Nat.le_refl _)
end Go.Proofs.YtocfcajafkkhdaaDoor
end
/- Nq -/
section
namespace Go.Proofs.YtocfcajafkkhdaaDoor
open Go.RowKit

theorem at_no (S : List (List UInt8)) (n : Nat) : (List.replicate n Kn.no).map (Kn.at_ S) = List.replicate n Kn.no := by
  rw [List.map_replicate]; rfl
theorem kAt_rep {n j : Nat} : kAt (List.replicate n Kn.no) j = Kn.no := by
  unfold kAt List.getD
  rw [List.getElem?_replicate]
  split <;> rfl
def LpRel0 (W0 : World) (k : Nat) (v16 v17 v18 v19 : Value) (wq : World) : Prop :=
  NtP W0.heap.size W0 wq (List.replicate k Kn.no) (List.replicate k Kn.no) (List.replicate k Kn.no) (List.replicate k Kn.no) v16 v17 v18 v19
set_option maxHeartbeats 8000000 in
set_option maxRecDepth 100000 in
theorem nt_plain (src dest : ByteArray) (S D : List (List UInt8)) (st : Bool) (w : World) (h0 : 0 < src.size) (h1 : 0 < dest.size) (h2 : src.size ≤ 100000) (h3 : dest.size ≤ 100000)
    (hS : sp 46 src.data.toList = S) (hD : sp 46 dest.data.toList = D) (tS : Toks S) (tD : Toks D) (hp : pwcs D = 0) (hf : fwc D = false) (hw : pwcs S = 0) (hw2 : fwc S = false)
    (hks : ∀ j, j < D.length → ∀ w, Calls Tryd.prog 39 #[sv (D.getD j [])] w (PhPost Kn.no w)) :
    Calls Tryd.prog 28 #[.string src, .string dest, .bool st] w (NtPost src dest S D (List.replicate D.length Kn.no) w) := by
  have i1 := info_any src w h2 (by rw [hS]; exact tS)
  have i2 := fun w => info_any dest w h3 (by rw [hD]; exact tD)
  rw [hS] at i1
  rw [hD] at i2
  unfold InfoPost at i1 i2
  rw [hp, hf] at i2
  rw [hw, hw2] at i1
  have hlS := sp_length 46 src.data.toList
  have hlD := sp_length 46 dest.data.toList
  rw [hS, K.bsize] at hlS
  rw [hD, K.bsize] at hlD
  have ne0 : ∀ (s : ByteArray), 0 < s.size → s.toList.isEmpty = false := fun s hs => by
    rw [ByteArray.toList_eq, List.isEmpty_eq_false_iff]
    intro e
    have := K.bsize s
    rw [e] at this
    simp at this
    omega
  have e0 := ne0 src h0
  have e1 := ne0 dest h1
  have HKS := Lib.hid hks
  clear ne0 hS hD tS tD hp hf hks hw hw2
  go_enter Tryd.func28, Tryd.ntmps28
  go_wp2_with fail
  refine i1.mono ?_
  rintro e w1 ⟨vs, rfl, hb1, ho1⟩
  have HO1 := Lib.hid (And.intro hb1 ho1)
  clear hb1 ho1 i1
  go_wp2_with fail
  refine (i2 w1).mono ?_
  rintro e w2 ⟨vd, rfl, hb2, ho2⟩
  have HO2 := Lib.hid (And.intro hb2 ho2)
  clear hb2 ho2 i2
  obtain ⟨AS, cS, rfl, hncS, hlS', hAS, hbS⟩ := K.lies_of_own HO1.out.2
  obtain ⟨AD, cD, rfl, hncD, hlD', hAD, hbD⟩ := K.lies_of_own HO2.out.2
  have HAS := Lib.hid (And.intro hAS hbS)
  have HAD := Lib.hid (And.intro hAD hbD)
  clear hAS hbS hAD hbD hlS' hlD'
  have hsz1 := HO1.out.1.size
  have hsz2 := HO2.out.1.size
  go_upto_region 53 with (fail)
  go_loopg [16, 17, 18, 19, 201] D.length (fun gk v16 v17 v18 v19 i wq => ∃ k : Nat, gk + k = D.length ∧ i = .int .i64 k ∧ Hid (LpRel0 w2 k v16 v17 v18 v19 wq))
  case atStart => exact ⟨0, by omega, rfl, Lib.hid (NtP.start (Below.refl _ _) (Nat.le_refl _))⟩
  case round =>
    obtain ⟨k, hgk, rfl, HL⟩ := hrel
    by_cases hlt : k < D.length
    · obtain ⟨ab, ao, rfl, hab, hcs⟩ := HAD.out.1 (by omega)
      have h39 := HKS.out k hlt wr
      have c1 : wr.cell? ⟨ab, ao + k, none⟩ = some (sv (D.getD k [])) := by
        have h4 := HL.out.below.cell (p := ⟨ab, ao + k, none⟩) hab
        rw [h4, hcs k hlt]
        simp [List.getD, hlt]
      obtain ⟨tb, htb⟩ : ∃ tb : ByteArray, sv (D.getD k []) = .string tb := ⟨_, rfl⟩
      rw [htb] at c1 h39
      have HGK := Lib.hid hgk
      clear hcs htb hgk
      go_wp2_with fail
      refine h39.mono ?_
      rintro e wp ⟨gi, ci, rfl, hbp, hgi, hli⟩
      have HP := Lib.hid (And.intro hbp (And.intro hgi hli))
      clear hbp hgi hli h39 c1
      have r1 := HL.out
      have N0 := Lib.hid (NtP.grow r1 HP.out.1)
      clear r1
      have hgb : (List.replicate k Kn.no).length ≤ 100000 := by rw [List.length_replicate]; have := HGK.out; omega
      rw [show Kn.no.ty = 0 from rfl]
      go_upto_region 59 with (fail)
      go_upto_region 60 with (at_builtin; refine wpList_app1 info82 Tryd.underlying62 rfl (by decide) rfl (.tmp 218) (.tmp 219) rfl w2.heap.size _ _ _ rfl (N0.out.r16.alloc _) _ _ _ rfl (new_cell' _ _ _ _ (by simp)) rfl hgb (Nat.le_trans N0.out.le (by simp)) ?_; intro v1 wa1 hown hgrow)
      have N1 := Lib.hid (N0.out.app16 (k := Kn.no) hown hgrow)
      clear hown hgrow
      have N2 := Lib.hid (N1.out.grow (w' := wa1.alloc (.cells #[.int .i64 (-1)] 3)) ((Below.refl _ _).alloc (Nat.le_refl _) _))
      have J2 := Lib.hid (Ints.new wa1 (-1))
      obtain ⟨us, hu, hus⟩ := N2.out.r17
      have HU := Lib.hid (And.intro hu hus)
      clear hu hus
      go_upto_region 61 with (at_builtin; refine wpList_app1 info39 Tryd.underlying63 rfl (by decide) rfl (.tmp 221) (.tmp 223) rfl w2.heap.size _ _ _ rfl (HU.out.1.alloc _) _ _ _ rfl (new_cell' _ _ _ _ (by simp)) rfl hgb (Nat.le_trans N2.out.le (by simp)) ?_; intro v3 wa3 hown hgrow)
      have N3 := Lib.hid (N2.out.app17 (k := Kn.no) HU.out.1 HU.out.2 J2.out hown hgrow)
      clear hown hgrow
      go_upto_region 62 with (at_builtin; refine wpList_app1 info21 Tryd.underlying64 rfl (by decide) rfl (.tmp 225) (.tmp 226) rfl w2.heap.size _ _ _ rfl (N3.out.r18.alloc _) _ _ _ rfl (new_cell' _ _ _ _ (by simp)) rfl hgb (Nat.le_trans N3.out.le (by simp)) ?_; intro v4 wa4 hown hgrow)
      have N4 := Lib.hid (N3.out.app18 (k := Kn.no) hown hgrow)
      clear hown hgrow
      go_upto_region 69 with (at_builtin; refine wpList_app1 info9 Tryd.underlying22 rfl (by decide) rfl (.tmp 228) (.tmp 229) rfl w2.heap.size _ _ _ rfl (N4.out.r19.alloc _) _ _ _ rfl (new_cell' _ _ _ _ (by simp)) rfl hgb (Nat.le_trans N4.out.le (by simp)) ?_; intro v5 wa5 hown hgrow)
      have N5 := Lib.hid (N4.out.app19 (k := Kn.no) hown hgrow)
      clear hown hgrow

      go_wp2_with fail
      go_roundg (gk - 1)
      case measure => have := HGK.out; omega
      case rel =>
        refine ⟨k + 1, by have := HGK.out; omega, by go_num, Lib.hid ?_⟩
        unfold LpRel0
        rw [List.replicate_succ']
        exact N5.out
    · obtain rfl : k = D.length := by omega
      have r1 := HL.out
      unfold LpRel0 at r1
      obtain ⟨A16, c16, rfl, _, _, l16, _⟩ := K.lies_of_own r1.r16
      obtain ⟨us, hu, hus⟩ := r1.r17
      obtain ⟨A17, c17, rfl, _, hul, l17, _⟩ := K.lies_of_own hu
      obtain ⟨A18, c18, rfl, _, _, l18, _⟩ := K.lies_of_own r1.r18
      obtain ⟨A19, c19, rfl, _, _, l19, _⟩ := K.lies_of_own r1.r19
      have HR1 := Lib.hid (And.intro r1.below r1.le)
      have HU := Lib.hid (And.intro hul hus)
      have H16 := Lib.hid (lies_map l16)
      have H17 := Lib.hid l17
      have H18 := Lib.hid (lies_map l18)
      have H19 := Lib.hid (lies_map l19)
      clear r1 hu hus hul l16 l17 l18 l19
      rw [List.length_replicate]
      go_wp2_with fail
      go_ret2
      have hz := HR1.out.2
      have hbw : Below w2.heap.size w2 (wr.alloc (.cells #[.string src, .string dest, .slice AD D.length cD, .slice AS S.length cS, .slice A16 D.length c16, .slice A17 D.length c17, .slice A18 D.length c18, .slice A19 D.length c19] 66)) := HR1.out.1.alloc hz _
      have hba : Below wr.heap.size wr (wr.alloc (.cells #[.string src, .string dest, .slice AD D.length cD, .slice AS S.length cS, .slice A16 D.length c16, .slice A17 D.length c17, .slice A18 D.length c18, .slice A19 D.length c19] 66)) := (Below.refl _ _).alloc (Nat.le_refl _) _
      refine ⟨HO1.out.1.trans ((HO2.out.1.trans (hbw.mono hsz2)).mono hsz1), wr.heap.size, rfl, by omega, ⟨AD, cD, AS, cS, A16, c16, A17, c17, A18, c18, A19, c19, by rw [List.length_map, List.length_replicate]; exact K.heap_alloc_at wr _, ?_, ?_, ?_, ?_, ?_, ?_⟩⟩
      · exact HAD.out.1.below hbw (Nat.le_refl _)
      · exact (HAS.out.1.below (HO2.out.1) (Nat.le_refl _)).below hbw (Nat.le_refl _)
      · rw [at_no]; exact H16.out.below hba (Nat.le_refl _)
      · rw [at_no]; exact ⟨us, HU.out.1, H17.out.below hba (Nat.le_refl _), fun j hj => (HU.out.2 j hj).below hba⟩
      · rw [at_no]; exact H18.out.below hba (Nat.le_refl _)
      · rw [at_no]; exact H19.out.below hba (Nat.le_refl _)
end Go.Proofs.YtocfcajafkkhdaaDoor
end
