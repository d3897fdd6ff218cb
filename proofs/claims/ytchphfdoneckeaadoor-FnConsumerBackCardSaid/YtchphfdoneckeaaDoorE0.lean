/-
  encodeConsumerState: all of it.
-/
import Derived.Test.YtchphfdoneckeaaDoorE1
import Derived.Test.YtchphfdoneckeaaDoorIn
import Derived.Laws.OwnMore
namespace Go.Proofs.YtchphfdoneckeaaDoor
open Go.RowKit Go.Lib
open Cs (Wt Kp Ag)

theorem encAt_new {w : World} {bb M : Nat} {cs : Array Value} {t : TypeId} (h : w.heap[bb]? = some (.cells cs t (0, 0))) (hM : cs.size = M) (ht : t ≠ 93) : EncAt w bb M [] := by
  refine ⟨lt_of_heap h, Nat.zero_le _, fun j hj => by simp at hj, fun j hj => ⟨?_, thawed h j⟩, ⟨cs, t, h, ht⟩⟩
  have hc : cs[j]? = some (cs[j]'(by omega)) := Array.getElem?_eq_getElem (by omega)
  rw [cell_of h hc]; rfl
theorem encAt_made {w : World} {B g M : Nat} {v : Value} {xs : List Value} (h : w.ownsRow B 5 1 v M xs) (hv : v = .slice (some ⟨g, 0, none⟩) M M) : EncAt w g M [] := by
  subst hv
  rcases h.2 with ⟨h', _⟩ | ⟨g', cap, cur, e, _, hg, _, _, hs, _⟩
  · cases h'
  · simp only [Value.slice.injEq, Option.some.injEq, Addr.mk.injEq, and_true, true_and] at e
    obtain ⟨rfl, rfl⟩ := e
    exact encAt_new hg (by simpa using hs) (by decide)
theorem info5 : ∃ i : TypeInfo, Tryd.prog.info? 5 = some i ∧ i.zero = some (.int .u8 0) ∧ i.size = 1 ∧ i.bytes = 1 := ⟨(Tryd.prog.info? 5).get (by kernel_rfl), by kernel_rfl, by kernel_rfl, by kernel_rfl, by kernel_rfl⟩
/-- what an encoder leaves -/
def EnPost (k : Kp) (ag : List Ag) (w : World) (e : Ending) (w' : World) : Prop :=
  ∃ bb M xs ys, e = .returned (.slice (some ⟨bb, 0, none⟩) (encAll k xs ys).length M) ∧ xs.Perm k.waits ∧ ys.Perm ag ∧ EncAt w' bb M (encAll k xs ys) ∧ M ≤ 1000000 ∧ Below w.heap.size w w'
/-- the numbers that the encoder bears -/
structure EnOk (k : Kp) (ag : List Ag) : Prop where
  n : k.fc < 9223372036854775808 ∧ k.fs < 9223372036854775808 ∧ k.dc < 9223372036854775808 ∧ k.ds < 9223372036854775808
  up : Cs.Up k.waits
  ua : Cs.AUp ag
  a : ∀ x ∈ ag, k.fs < x.s ∧ x.s < 9223372036854775808 ∧ x.n < 9223372036854775808
  w : ∀ x ∈ k.waits, k.fs < x.s ∧ x.s < 9223372036854775808 ∧ k.fc < x.c ∧ x.c < 9223372036854775808 ∧ 0 ≤ x.t ∧ x.t ≤ 1152921504606846976
  l : k.waits.length ≤ 12
  la : ag.length ≤ 12
theorem en_fin {k : Kp} {ag : List Ag} {w w1 w' : World} {bb M : Nat} {xs : List Wt} {ys : List Ag} (hb : Below w.heap.size w w1) (hbb : w.heap.size ≤ bb) (hx : xs.Perm k.waits) (hy : ys.Perm ag)
    (he : EncAt w' bb M (encHd k k.waits.length ++ encP k xs ++ uvarint ag.length ++ ys.flatMap (encAg k))) (hb2 : But (fun j => j = bb) w1 w') (hM : M ≤ 1000000) :
    EnPost k ag w (.returned (.slice (some ⟨bb, 0, none⟩) (encHd k k.waits.length ++ encP k xs ++ uvarint ag.length ++ ys.flatMap (encAg k)).length M)) w' := by
  have e : encHd k k.waits.length ++ encP k xs ++ uvarint ag.length ++ ys.flatMap (encAg k) = encAll k xs ys := by
    unfold encAll
    rw [hx.length_eq, hy.length_eq]
  rw [e] at he ⊢
  exact ⟨bb, M, xs, ys, rfl, hx, hy, he, hM, But.below hb hb2 (fun j h => by rw [h]; exact hbb) hb.size⟩

set_option maxHeartbeats 8000000 in
set_option maxRecDepth 1000000 in
theorem enc_none (S : Nat) (k : Kp) (w : World) (hK : KeptAt w S k (.map none) (.map none)) (hk : EnOk k []) (h0 : k.waits = []) :
    Calls Tryd.prog 35 #[.pointer (some ⟨S, 0, none⟩)] w (EnPost k [] w) := by
  have c4 := past hK.c4
  have c5 := past hK.c5
  have hln := fun (w : World) (ty : TypeId) => Maps.len_nil (w := w) Tryd.underlying79 ty
  have hln2 := fun (w : World) (ty : TypeId) => Maps.len_nil (w := w) Tryd.underlying80 ty
  have HK := Lib.hid (And.intro hK (And.intro hk h0))
  clear hK hk h0
  go_enter Tryd.func35, Tryd.ntmps35
  go_upto_region 10 with fail
  rename_i K1 a1 K2 a2
  have HKS := Lib.hid a1
  clear a1
  have he : EncAt (w.alloc (.cells #[.int .u8 0, .int .u8 0, .int .u8 0, .int .u8 0, .int .u8 0, .int .u8 0, .int .u8 0, .int .u8 0, .int .u8 0, .int .u8 0, .int .u8 0, .int .u8 0, .int .u8 0, .int .u8 0, .int .u8 0, .int .u8 0, .int .u8 0, .int .u8 0, .int .u8 0, .int .u8 0, .int .u8 0, .int .u8 0, .int .u8 0, .int .u8 0, .int .u8 0, .int .u8 0, .int .u8 0, .int .u8 0, .int .u8 0, .int .u8 0, .int .u8 0, .int .u8 0, .int .u8 0, .int .u8 0, .int .u8 0, .int .u8 0, .int .u8 0, .int .u8 0, .int .u8 0, .int .u8 0, .int .u8 0, .int .u8 0, .int .u8 0, .int .u8 0, .int .u8 0, .int .u8 0, .int .u8 0, .int .u8 0, .int .u8 0, .int .u8 0, .int .u8 0, .int .u8 0, .int .u8 0, .int .u8 0, .int .u8 0, .int .u8 0, .int .u8 0, .int .u8 0, .int .u8 0, .int .u8 0, .int .u8 0, .int .u8 0] 121)) w.heap.size 62 [] := encAt_new (K.heap_alloc_at _ _) rfl (by decide)
  have hb : Below w.heap.size w (w.alloc (.cells #[.int .u8 0, .int .u8 0, .int .u8 0, .int .u8 0, .int .u8 0, .int .u8 0, .int .u8 0, .int .u8 0, .int .u8 0, .int .u8 0, .int .u8 0, .int .u8 0, .int .u8 0, .int .u8 0, .int .u8 0, .int .u8 0, .int .u8 0, .int .u8 0, .int .u8 0, .int .u8 0, .int .u8 0, .int .u8 0, .int .u8 0, .int .u8 0, .int .u8 0, .int .u8 0, .int .u8 0, .int .u8 0, .int .u8 0, .int .u8 0, .int .u8 0, .int .u8 0, .int .u8 0, .int .u8 0, .int .u8 0, .int .u8 0, .int .u8 0, .int .u8 0, .int .u8 0, .int .u8 0, .int .u8 0, .int .u8 0, .int .u8 0, .int .u8 0, .int .u8 0, .int .u8 0, .int .u8 0, .int .u8 0, .int .u8 0, .int .u8 0, .int .u8 0, .int .u8 0, .int .u8 0, .int .u8 0, .int .u8 0, .int .u8 0, .int .u8 0, .int .u8 0, .int .u8 0, .int .u8 0, .int .u8 0, .int .u8 0] 121)) := (Below.refl _ w).alloc (Nat.le_refl _) _
  have HB := Lib.hid (And.intro he hb)
  clear he hb
  go_wp2_with fail
  refine HKS.out _ _ ?_
  generalize (w.alloc (.cells #[.int .u8 0, .int .u8 0, .int .u8 0, .int .u8 0, .int .u8 0, .int .u8 0, .int .u8 0, .int .u8 0, .int .u8 0, .int .u8 0, .int .u8 0, .int .u8 0, .int .u8 0, .int .u8 0, .int .u8 0, .int .u8 0, .int .u8 0, .int .u8 0, .int .u8 0, .int .u8 0, .int .u8 0, .int .u8 0, .int .u8 0, .int .u8 0, .int .u8 0, .int .u8 0, .int .u8 0, .int .u8 0, .int .u8 0, .int .u8 0, .int .u8 0, .int .u8 0, .int .u8 0, .int .u8 0, .int .u8 0, .int .u8 0, .int .u8 0, .int .u8 0, .int .u8 0, .int .u8 0, .int .u8 0, .int .u8 0, .int .u8 0, .int .u8 0, .int .u8 0, .int .u8 0, .int .u8 0, .int .u8 0, .int .u8 0, .int .u8 0, .int .u8 0, .int .u8 0, .int .u8 0, .int .u8 0, .int .u8 0, .int .u8 0, .int .u8 0, .int .u8 0, .int .u8 0, .int .u8 0, .int .u8 0, .int .u8 0] 121)) = w1 at HB ⊢
  have hbF : But (fun _ => False) w w1 := But.of HB.out.2
  have hS := lt_of_heap HK.out.1
  refine enc13 S w.heap.size 62 0 0 0 k [] _ _ w1 _ _ _ _ _ _ _ _ _ _ _ _ _ _ _ _ _ _ _ _ _ _ _ _ _ _ _ _ _ _ _ _ _ _ _ _ _ _ _ _ _ _ _ _ _ _ _ _ _ _ _ _ _ _ _ _ _ _ _ _ _ _ _ _ _ _ _ _ _ _ _ _ _ _ _ _ _ _ _ _ _ _ _ _ _ _ _ _ _ _ _ _ _ _ _ _ _ _ _ _ _ _ _ _ _ _ _ _ _ _ _ _ _ _ _ _ _ _ _ _ _ _ _ _ _ _ _ _ _ _ _ _ _ _ _ _ _ _ _ _ _ _ _ _ _ _ _ _ _ _ _ _ _ _ _ _ _ _ _ _ _ _ _ _ _ _ _ _ _ _ _ _ _ _ _ _ _ _ _ _ _ _ _ _ _ _ _ _ _ _ _ _ _ _ _ _ _ _ _ _ _ _ _ _ _ _ _ _ _ _ _ _ _ _ _ _ _ _ _ _ ((hbF.block S hS (fun h => h)).trans HK.out.1) HB.out.1 (by omega) (by rw [if_pos HK.out.2.2]; simp) (by omega) (by rw [HK.out.2.2]; rfl) (fun W' _ ty => hln W' ty) HK.out.2.1.n (Or.inl ⟨HK.out.2.2, rfl⟩) (Or.inl ⟨rfl, rfl⟩) HK.out.2.1.up HK.out.2.1.ua HK.out.2.1.a HK.out.2.1.w (fun xs ys w' hx hy he hb => ?_)
  have h1 : k.waits.length = 0 := by rw [HK.out.2.2]; rfl
  have he' : EncAt w' w.heap.size 62 (encHd k k.waits.length ++ encP k xs ++ uvarint ([] : List Ag).length ++ ys.flatMap (encAg k)) := by rw [h1]; exact he
  have hh := en_fin HB.out.2 (Nat.le_refl _) hx hy he' hb (by omega)
  rw [h1] at hh
  exact hh
set_option maxHeartbeats 8000000 in
set_option maxRecDepth 1000000 in
theorem enc_some (S b n : Nat) (D : DataW Unit) (k : Kp) (w : World) (hK : KeptAt w S k (.map (some b)) (.map none)) (hp : PMap w b n D k.waits) (hk : EnOk k []) (h0 : k.waits ≠ []) :
    Calls Tryd.prog 35 #[.pointer (some ⟨S, 0, none⟩)] w (EnPost k [] w) := by
  have c4 := past hK.c4
  have c5 := past hK.c5
  have hln := fun o ty => (hp.own.alloc o).len Tryd.underlying79 ty
  have hsp := hp.size_eq hk.up
  obtain ⟨nw, hnw⟩ : ∃ m, k.waits.length = m := ⟨_, rfl⟩
  have hnwp : 0 < nw := by rw [← hnw]; exact List.length_pos_iff.2 h0
  have hnw12 : nw ≤ 12 := by rw [← hnw]; exact hk.l
  rw [hsp, hnw] at hln
  have hln2 := fun (w : World) (ty : TypeId) => Maps.len_nil (w := w) Tryd.underlying80 ty
  have hi0 : (0 : Int) < (nw : Int) := by omega
  have hi1 : (nw : Int) ≤ 12 := by omega
  have HK := Lib.hid (And.intro hK (And.intro hk (And.intro h0 (And.intro hp (And.intro hnw hsp)))))
  clear hK hk h0 hp hnw hsp
  obtain ⟨i5, ji, jz, js, jb⟩ := info5
  have HJ := Lib.hid (And.intro ji (And.intro jz (And.intro js jb)))
  clear ji jz js jb
  go_enter Tryd.func35, Tryd.ntmps35
  go_upto_region 10 with fail
  rename_i K1 a1 K2 a2
  have HKS := Lib.hid a1
  clear a1 c4 c5 hln hln2
  have hb : Below w.heap.size w (w.alloc (.cells #[.int .u8 0, .int .u8 0, .int .u8 0, .int .u8 0, .int .u8 0, .int .u8 0, .int .u8 0, .int .u8 0, .int .u8 0, .int .u8 0, .int .u8 0, .int .u8 0, .int .u8 0, .int .u8 0, .int .u8 0, .int .u8 0, .int .u8 0, .int .u8 0, .int .u8 0, .int .u8 0, .int .u8 0, .int .u8 0, .int .u8 0, .int .u8 0, .int .u8 0, .int .u8 0, .int .u8 0, .int .u8 0, .int .u8 0, .int .u8 0, .int .u8 0, .int .u8 0, .int .u8 0, .int .u8 0, .int .u8 0, .int .u8 0, .int .u8 0, .int .u8 0, .int .u8 0, .int .u8 0, .int .u8 0, .int .u8 0, .int .u8 0, .int .u8 0, .int .u8 0, .int .u8 0, .int .u8 0, .int .u8 0, .int .u8 0, .int .u8 0, .int .u8 0, .int .u8 0, .int .u8 0, .int .u8 0, .int .u8 0, .int .u8 0, .int .u8 0, .int .u8 0, .int .u8 0, .int .u8 0, .int .u8 0, .int .u8 0] 121)) := (Below.refl _ w).alloc (Nat.le_refl _) _
  have HB := Lib.hid hb
  clear hb
  generalize (w.alloc (.cells #[.int .u8 0, .int .u8 0, .int .u8 0, .int .u8 0, .int .u8 0, .int .u8 0, .int .u8 0, .int .u8 0, .int .u8 0, .int .u8 0, .int .u8 0, .int .u8 0, .int .u8 0, .int .u8 0, .int .u8 0, .int .u8 0, .int .u8 0, .int .u8 0, .int .u8 0, .int .u8 0, .int .u8 0, .int .u8 0, .int .u8 0, .int .u8 0, .int .u8 0, .int .u8 0, .int .u8 0, .int .u8 0, .int .u8 0, .int .u8 0, .int .u8 0, .int .u8 0, .int .u8 0, .int .u8 0, .int .u8 0, .int .u8 0, .int .u8 0, .int .u8 0, .int .u8 0, .int .u8 0, .int .u8 0, .int .u8 0, .int .u8 0, .int .u8 0, .int .u8 0, .int .u8 0, .int .u8 0, .int .u8 0, .int .u8 0, .int .u8 0, .int .u8 0, .int .u8 0, .int .u8 0, .int .u8 0, .int .u8 0, .int .u8 0, .int .u8 0, .int .u8 0, .int .u8 0, .int .u8 0, .int .u8 0, .int .u8 0] 121)) = w1 at HB ⊢
  obtain ⟨M, hM⟩ : ∃ M : Nat, 62 + (30 * nw + 10) = M := ⟨_, rfl⟩
  have hMi : (62 : Int) + ((nw : Int) * 30 + 10) = (M : Int) := by omega
  rw [hMi]
  have HM := Lib.hid hM
  have m0 : (0 : Int) ≤ (M : Int) := by omega
  have m1 : (M : Int) ≤ 1000 := by omega
  have m2 : ¬ ((M : Int) = 62) := by omega
  have m3 : ¬ (M = 62) := by omega
  clear hM hMi
  have hi5 := HJ.out.1
  have hz5 := HJ.out.2.1
  have hs5 := HJ.out.2.2.1
  have hy5 := HJ.out.2.2.2
  go_wp2_with (at_make; refine wpList_make_full _ rfl _ _ 67 rfl w1.heap.size 5 i5 (.int .u8 0) 1 Tryd.underlying67 hi5 hz5 hs5 .i64 .i64 _ _ M rfl rfl rfl rfl (by rw [hy5]; omega) (by unfold maxLen; omega) (by omega) ?_; intro w2 hown hgr; have HW2 := Lib.hid (And.intro (encAt_made hown rfl) hgr); clear hown hgr)
  refine HKS.out _ _ ?_
  have hb12 : But (fun _ => False) w1 w2 := (But.refl _ w1).grown HW2.out.2 (fun _ h => by cases h)
  have hbw2 : Below w.heap.size w w2 := But.below HB.out hb12 (fun _ h => h.elim) HB.out.size
  have hbF : But (fun _ => False) w w2 := But.of hbw2
  have hS := lt_of_heap HK.out.1
  have hp2 : PMap w2 b n D k.waits := HK.out.2.2.2.1.but hbF (fun h => h) (fun _ _ _ h => h.elim)
  have hbM : b ≠ w1.heap.size := by
    have h1 := HK.out.2.2.2.1.own.lt
    have h2 := HB.out.size
    omega
  refine enc13 S w1.heap.size M n n nw k [] _ _ w2 _ _ _ _ _ _ _ _ _ _ _ _ _ _ _ _ _ _ _ _ _ _ _ _ _ _ _ _ _ _ _ _ _ _ _ _ _ _ _ _ _ _ _ _ _ _ _ _ _ _ _ _ _ _ _ _ _ _ _ _ _ _ _ _ _ _ _ _ _ _ _ _ _ _ _ _ _ _ _ _ _ _ _ _ _ _ _ _ _ _ _ _ _ _ _ _ _ _ _ _ _ _ _ _ _ _ _ _ _ _ _ _ _ _ _ _ _ _ _ _ _ _ _ _ _ _ _ _ _ _ _ _ _ _ _ _ _ _ _ _ _ _ _ _ _ _ _ _ _ _ _ _ _ _ _ _ _ _ _ _ _ _ _ _ _ _ _ _ _ _ _ _ _ _ _ _ _ _ _ _ _ _ _ _ _ _ _ _ _ _ _ _ _ _ _ _ _ _ _ _ _ _ _ _ _ _ _ _ _ _ _ _ _ _ _ _ _ _ _ _ ((hbF.block S hS (fun h => h)).trans HK.out.1) HW2.out.1 (by have := HB.out.size; omega) (by have hM := HM.out; rw [if_neg HK.out.2.2.1, HK.out.2.2.2.2.1, show ([] : List Ag).length = 0 from rfl]; omega) (by have := HM.out; omega) HK.out.2.2.2.2.1 (fun W' hbW ty => ?_) HK.out.2.1.n (Or.inr ⟨b, D, rfl, hp2, HK.out.2.2.1⟩) (Or.inl ⟨rfl, rfl⟩) HK.out.2.1.up HK.out.2.1.ua HK.out.2.1.a HK.out.2.1.w (fun xs ys w' hx hy he hb => ?_)
  · have h1 := (hp2.but hbW hbM (fun p cs f e => by subst e; exact HW2.out.1.not93 cs f)).own.len Tryd.underlying79 ty
    rw [HK.out.2.2.2.2.2, HK.out.2.2.2.2.1] at h1
    exact h1
  · have h1 := HK.out.2.2.2.2.1
    have he' : EncAt w' w1.heap.size M (encHd k k.waits.length ++ encP k xs ++ uvarint ([] : List Ag).length ++ ys.flatMap (encAg k)) := by rw [h1]; exact he
    have hh := en_fin hbw2 HB.out.size hx hy he' hb (by have := HM.out; omega)
    rw [h1] at hh
    exact hh
set_option maxHeartbeats 8000000 in
set_option maxRecDepth 1000000 in
theorem enc_both (S b n : Nat) (D : DataW Unit) (k : Kp) (rb na' : Nat) (E : DataW Unit) (ag : List Ag) (w : World) (hK : KeptAt w S k (.map (some b)) (.map (some rb))) (hp : PMap w b n D k.waits) (hq : RMap w rb na' E ag) (ha : ag ≠ []) (hk : EnOk k ag) (h0 : k.waits ≠ []) :
    Calls Tryd.prog 35 #[.pointer (some ⟨S, 0, none⟩)] w (EnPost k ag w) := by
  have c4 := past hK.c4
  have c5 := past hK.c5
  have hln := fun o ty => (hp.own.alloc o).len Tryd.underlying79 ty
  have hsp := hp.size_eq hk.up
  obtain ⟨nw, hnw⟩ : ∃ m, k.waits.length = m := ⟨_, rfl⟩
  have hnwp : 0 < nw := by rw [← hnw]; exact List.length_pos_iff.2 h0
  have hnw12 : nw ≤ 12 := by rw [← hnw]; exact hk.l
  rw [hsp, hnw] at hln
  have hln2 := fun o ty => (hq.own.alloc o).len Tryd.underlying80 ty
  have hsa := hq.size_eq hk.ua
  obtain ⟨na, hna⟩ : ∃ m, ag.length = m := ⟨_, rfl⟩
  have hnap : 0 < na := by rw [← hna]; exact List.length_pos_iff.2 ha
  have hna12 : na ≤ 12 := by rw [← hna]; exact hk.la
  rw [hsa, hna] at hln2
  have hj0 : (0 : Int) < (na : Int) := by omega
  have hj1 : (na : Int) ≤ 12 := by omega
  have HQ := Lib.hid (And.intro hq (And.intro ha hna))
  clear hsa hq ha hna
  have hi0 : (0 : Int) < (nw : Int) := by omega
  have hi1 : (nw : Int) ≤ 12 := by omega
  have HK := Lib.hid (And.intro hK (And.intro hk (And.intro h0 (And.intro hp (And.intro hnw hsp)))))
  clear hK hk h0 hp hnw hsp
  obtain ⟨i5, ji, jz, js, jb⟩ := info5
  have HJ := Lib.hid (And.intro ji (And.intro jz (And.intro js jb)))
  clear ji jz js jb
  go_enter Tryd.func35, Tryd.ntmps35
  go_upto_region 10 with fail
  rename_i K1 a1 K2 a2
  have HKS := Lib.hid a1
  clear a1 c4 c5 hln hln2
  have hb : Below w.heap.size w (w.alloc (.cells #[.int .u8 0, .int .u8 0, .int .u8 0, .int .u8 0, .int .u8 0, .int .u8 0, .int .u8 0, .int .u8 0, .int .u8 0, .int .u8 0, .int .u8 0, .int .u8 0, .int .u8 0, .int .u8 0, .int .u8 0, .int .u8 0, .int .u8 0, .int .u8 0, .int .u8 0, .int .u8 0, .int .u8 0, .int .u8 0, .int .u8 0, .int .u8 0, .int .u8 0, .int .u8 0, .int .u8 0, .int .u8 0, .int .u8 0, .int .u8 0, .int .u8 0, .int .u8 0, .int .u8 0, .int .u8 0, .int .u8 0, .int .u8 0, .int .u8 0, .int .u8 0, .int .u8 0, .int .u8 0, .int .u8 0, .int .u8 0, .int .u8 0, .int .u8 0, .int .u8 0, .int .u8 0, .int .u8 0, .int .u8 0, .int .u8 0, .int .u8 0, .int .u8 0, .int .u8 0, .int .u8 0, .int .u8 0, .int .u8 0, .int .u8 0, .int .u8 0, .int .u8 0, .int .u8 0, .int .u8 0, .int .u8 0, .int .u8 0] 121)) := (Below.refl _ w).alloc (Nat.le_refl _) _
  have HB := Lib.hid hb
  clear hb
  generalize (w.alloc (.cells #[.int .u8 0, .int .u8 0, .int .u8 0, .int .u8 0, .int .u8 0, .int .u8 0, .int .u8 0, .int .u8 0, .int .u8 0, .int .u8 0, .int .u8 0, .int .u8 0, .int .u8 0, .int .u8 0, .int .u8 0, .int .u8 0, .int .u8 0, .int .u8 0, .int .u8 0, .int .u8 0, .int .u8 0, .int .u8 0, .int .u8 0, .int .u8 0, .int .u8 0, .int .u8 0, .int .u8 0, .int .u8 0, .int .u8 0, .int .u8 0, .int .u8 0, .int .u8 0, .int .u8 0, .int .u8 0, .int .u8 0, .int .u8 0, .int .u8 0, .int .u8 0, .int .u8 0, .int .u8 0, .int .u8 0, .int .u8 0, .int .u8 0, .int .u8 0, .int .u8 0, .int .u8 0, .int .u8 0, .int .u8 0, .int .u8 0, .int .u8 0, .int .u8 0, .int .u8 0, .int .u8 0, .int .u8 0, .int .u8 0, .int .u8 0, .int .u8 0, .int .u8 0, .int .u8 0, .int .u8 0, .int .u8 0, .int .u8 0] 121)) = w1 at HB ⊢
  obtain ⟨M, hM⟩ : ∃ M : Nat, 62 + (30 * nw + 10) + (20 * na + 10) = M := ⟨_, rfl⟩
  have hMi : (62 : Int) + ((nw : Int) * 30 + 10) + ((na : Int) * 20 + 10) = (M : Int) := by omega
  rw [hMi]
  have HM := Lib.hid hM
  have m0 : (0 : Int) ≤ (M : Int) := by omega
  have m1 : (M : Int) ≤ 1000 := by omega
  have m2 : ¬ ((M : Int) = 62) := by omega
  have m3 : ¬ (M = 62) := by omega
  clear hM hMi
  have hi5 := HJ.out.1
  have hz5 := HJ.out.2.1
  have hs5 := HJ.out.2.2.1
  have hy5 := HJ.out.2.2.2
  go_wp2_with (at_make; refine wpList_make_full _ rfl _ _ 67 rfl w1.heap.size 5 i5 (.int .u8 0) 1 Tryd.underlying67 hi5 hz5 hs5 .i64 .i64 _ _ M rfl rfl rfl rfl (by rw [hy5]; omega) (by unfold maxLen; omega) (by omega) ?_; intro w2 hown hgr; have HW2 := Lib.hid (And.intro (encAt_made hown rfl) hgr); clear hown hgr)
  refine HKS.out _ _ ?_
  have hb12 : But (fun _ => False) w1 w2 := (But.refl _ w1).grown HW2.out.2 (fun _ h => by cases h)
  have hbw2 : Below w.heap.size w w2 := But.below HB.out hb12 (fun _ h => h.elim) HB.out.size
  have hbF : But (fun _ => False) w w2 := But.of hbw2
  have hS := lt_of_heap HK.out.1
  have hp2 : PMap w2 b n D k.waits := HK.out.2.2.2.1.but hbF (fun h => h) (fun _ _ _ h => h.elim)
  have hbM : b ≠ w1.heap.size := by
    have h1 := HK.out.2.2.2.1.own.lt
    have h2 := HB.out.size
    omega
  refine enc13 S w1.heap.size M n na' nw k ag _ _ w2 _ _ _ _ _ _ _ _ _ _ _ _ _ _ _ _ _ _ _ _ _ _ _ _ _ _ _ _ _ _ _ _ _ _ _ _ _ _ _ _ _ _ _ _ _ _ _ _ _ _ _ _ _ _ _ _ _ _ _ _ _ _ _ _ _ _ _ _ _ _ _ _ _ _ _ _ _ _ _ _ _ _ _ _ _ _ _ _ _ _ _ _ _ _ _ _ _ _ _ _ _ _ _ _ _ _ _ _ _ _ _ _ _ _ _ _ _ _ _ _ _ _ _ _ _ _ _ _ _ _ _ _ _ _ _ _ _ _ _ _ _ _ _ _ _ _ _ _ _ _ _ _ _ _ _ _ _ _ _ _ _ _ _ _ _ _ _ _ _ _ _ _ _ _ _ _ _ _ _ _ _ _ _ _ _ _ _ _ _ _ _ _ _ _ _ _ _ _ _ _ _ _ _ _ _ _ _ _ _ _ _ _ _ _ _ _ _ _ _ _ ((hbF.block S hS (fun h => h)).trans HK.out.1) HW2.out.1 (by have := HB.out.size; omega) (by have hM := HM.out; rw [if_neg HK.out.2.2.1, HK.out.2.2.2.2.1, HQ.out.2.2]; omega) (by have := HM.out; omega) HK.out.2.2.2.2.1 (fun W' hbW ty => ?_) HK.out.2.1.n (Or.inr ⟨b, D, rfl, hp2, HK.out.2.2.1⟩) (Or.inr ⟨rb, E, rfl, HQ.out.1.but hbF (fun h => h), HQ.out.2.1⟩) HK.out.2.1.up HK.out.2.1.ua HK.out.2.1.a HK.out.2.1.w (fun xs ys w' hx hy he hb => ?_)
  · have h1 := (hp2.but hbW hbM (fun p cs f e => by subst e; exact HW2.out.1.not93 cs f)).own.len Tryd.underlying79 ty
    rw [HK.out.2.2.2.2.2, HK.out.2.2.2.2.1] at h1
    exact h1
  · have h1 := HK.out.2.2.2.2.1
    have he' : EncAt w' w1.heap.size M (encHd k k.waits.length ++ encP k xs ++ uvarint (ag : List Ag).length ++ ys.flatMap (encAg k)) := by rw [h1]; exact he
    have hh := en_fin hbw2 HB.out.size hx hy he' hb (by have := HM.out; omega)
    rw [h1] at hh
    exact hh
end Go.Proofs.YtchphfdoneckeaaDoor
