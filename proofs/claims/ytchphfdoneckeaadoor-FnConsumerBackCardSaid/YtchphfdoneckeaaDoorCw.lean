/-
  ConsumerBytes: a state encoded and decoded again.
-/
import Derived.Test.YtchphfdoneckeaaDoorD0
import Derived.Test.YtchphfdoneckeaaDoorE0
import Derived.Test.YtchphfdoneckeaaDoorCn
namespace Go.Proofs.YtchphfdoneckeaaDoor
open Go.RowKit Go.Lib
open Cs (Wt Kp Ag)

theorem enc_any (S : Nat) (pv rv : Value) (k : Kp) (ag : List Ag) (w : World) (hK : KeptAt w S k pv rv) (hP : Pend1 S w pv k.waits.length k.waits) (hQ : Redel1 S w rv ag.length ag) (hk : EnOk k ag) (hwa : k.waits = [] → ag = []) :
    Calls Tryd.prog 35 #[.pointer (some ⟨S, 0, none⟩)] w (EnPost k ag w) := by
  rcases hP with ⟨h0, rfl⟩ | ⟨b, D, h0, rfl, hp, _⟩
  · have hw : k.waits = [] := List.length_eq_zero_iff.1 h0
    obtain rfl := hwa hw
    rcases hQ with ⟨_, rfl⟩ | ⟨_, _, h1, _⟩
    · exact enc_none S k w hK hk hw
    · exact absurd h1 (by simp)
  · have hw : k.waits ≠ [] := fun e => by rw [e] at h0; exact absurd h0 (by simp)
    rw [List.take_length] at hp
    rcases hQ with ⟨h1, rfl⟩ | ⟨rb, E, h1, rfl, hq, _⟩
    · obtain rfl : ag = [] := List.length_eq_zero_iff.1 h1
      exact enc_some S b _ D k w hK hp hk hw
    · rw [List.take_length] at hq
      exact enc_both S b k.waits.length D k rb ag.length E ag w hK hp hq (fun e => by rw [e] at h1; exact absurd h1 (by simp)) hk hw
set_option maxRecDepth 100000 in
theorem enc22 (S : Nat) (k : Kp) (ag : List Ag) (w : World) (h : Calls Tryd.prog 35 #[.pointer (some ⟨S, 0, none⟩)] w (EnPost k ag w)) :
    Calls Tryd.prog 22 #[.pointer (some ⟨S, 0, none⟩)] w (EnPost k ag w) := by
  go_enter Tryd.func22, Tryd.ntmps22
  go_wp2_with fail
  refine h.mono ?_
  rintro e w1 ⟨bb, M, xs, ys, rfl, h1⟩
  have H1 := Lib.hid h1
  clear h h1
  go_wp2_with fail
  go_ret
  exact ⟨bb, M, xs, ys, rfl, H1.out⟩
set_option maxRecDepth 100000 in
theorem dec21 (bb N M : Nat) (k : Kp) (ag : List Ag) (w : World) (h : Calls Tryd.prog 34 #[.slice (some ⟨bb, 0, none⟩) N M] w (DePost k ag w)) :
    Calls Tryd.prog 21 #[.slice (some ⟨bb, 0, none⟩) N M] w (DePost k ag w) := by
  go_enter Tryd.func21, Tryd.ntmps21
  go_wp2_with fail
  refine h.mono ?_
  rintro e w1 ⟨S, pv, rv, rfl, h1⟩
  have H1 := Lib.hid h1
  clear h h1
  go_wp2_with fail
  go_ret2
  exact ⟨S, pv, rv, rfl, H1.out⟩
theorem pw_w {l l' : List Wt} (h : Cs.Up l) (hp : l'.Perm l) : l'.Pairwise (fun a b => a.s ≠ b.s) :=
  hp.symm.pairwise (List.Pairwise.imp (fun hab e => by omega) h) (fun hab e => hab e.symm)
theorem pw_a {l l' : List Ag} (h : Cs.AUp l) (hp : l'.Perm l) : l'.Pairwise (fun a b => a.s ≠ b.s) :=
  hp.symm.pairwise (List.Pairwise.imp (fun hab e => by omega) h) (fun hab e => hab e.symm)
theorem WAt.past {w5 w6 : World} {A : Option Addr} {l : List Wt} {r : Nat} (h : WAt w5 A l) (hR : w5.heap[r]? = some (.cells #[.int .u64 0, .int .u64 0, .int .u64 0, .int .u64 0, .slice none 0 0, .slice none 0 0] 31 (0, 0))) (hb : But (fun j => j = r) w5 w6) : WAt w6 A l := by
  intro hl
  obtain ⟨b, o, h1, h2, h3⟩ := h hl
  have hne : b ≠ r := by
    rintro rfl
    cases l with
    | nil => exact hl rfl
    | cons x l =>
      have h4 := (h3 0 x rfl).2.2
      generalize o + 0 * 3 + 2 = i at h4
      simp only [World.cell?, hR] at h4
      rcases i with _ | _ | _ | _ | _ | _ | i <;> simp at h4
  have e : ∀ i, w6.cell? ⟨b, i, none⟩ = w5.cell? ⟨b, i, none⟩ := fun i => by simp only [World.cell?, hb.block b h2 hne]
  exact ⟨b, o, h1, Nat.lt_of_lt_of_le h2 hb.size, fun i x hx => by rw [e, e, e]; exact h3 i x hx⟩
theorem AAt.past {w5 w6 : World} {A : Option Addr} {l : List Ag} {r : Nat} (h : AAt w5 A l) (hp : ∀ x ∈ l, 1 ≤ x.n) (hR : w5.heap[r]? = some (.cells #[.int .u64 0, .int .u64 0, .int .u64 0, .int .u64 0, .slice none 0 0, .slice none 0 0] 31 (0, 0))) (hb : But (fun j => j = r) w5 w6) : AAt w6 A l := by
  intro hl
  obtain ⟨b, o, h1, h2, h3⟩ := h hl
  have hne : b ≠ r := by
    rintro rfl
    cases l with
    | nil => exact hl rfl
    | cons x l =>
      have h4 := (h3 0 x rfl).2
      have h5 := hp x (by simp)
      generalize o + 0 * 2 + 1 = i at h4
      simp only [World.cell?, hR] at h4
      rcases i with _ | _ | _ | _ | _ | _ | i <;> simp at h4 <;> omega
  have e : ∀ i, w6.cell? ⟨b, i, none⟩ = w5.cell? ⟨b, i, none⟩ := fun i => by simp only [World.cell?, hb.block b h2 hne]
  exact ⟨b, o, h1, Nat.lt_of_lt_of_le h2 hb.size, fun i x hx => by rw [e, e]; exact h3 i x hx⟩
def BcPost (k : Kp) (ag : List Ag) (w : World) (e : Ending) (w' : World) : Prop :=
  ∃ A cap B capB, e = .returned (.tuple #[keepV k A cap (.slice B ag.length capB), .int .i64 0]) ∧ WAt w' A k.waits ∧ AAt w' B ag ∧ Below w.heap.size w w'
/-- what the numbers must be -/
structure BkOk (k : Kp) (ag : List Ag) : Prop where
  e : EnOk k ag
  f : KFits k ag
  a : ∀ x ∈ ag, 1 ≤ x.n
  t : ∀ x ∈ k.waits, x.t % 1000000000 = 0
theorem bc_fin {w w5 : World} (k : Kp) (ag : List Ag) (A B : Option Addr) (cap m capB mb : Nat) (hm : k.waits.length = m) (hmb : ag.length = mb)
    (hR : w5.heap[w.heap.size + 1]? = some (.cells #[.int .u64 0, .int .u64 0, .int .u64 0, .int .u64 0, .slice none 0 0, .slice none 0 0] 31 (0, 0))) (hW : WAt w5 A k.waits) (hA : AAt w5 B ag) (hp : ∀ x ∈ ag, 1 ≤ x.n) (hB : Below w.heap.size w w5) :
    ((((((w5.setCell ⟨w.heap.size + 1, 0, none⟩ (.int .u64 (k.dc : Int))).setCell ⟨w.heap.size + 1, 1, none⟩ (.int .u64 (k.ds : Int))).setCell ⟨w.heap.size + 1, 2, none⟩ (.int .u64 (k.fc : Int))).setCell ⟨w.heap.size + 1, 3, none⟩ (.int .u64 (k.fs : Int))).setCell ⟨w.heap.size + 1, 4, none⟩ (.slice A m cap)).setCell ⟨w.heap.size + 1, 5, none⟩ (.slice B mb capB)).heap[w.heap.size + 1]? = some (.cells #[.int .u64 (k.dc : Int), .int .u64 (k.ds : Int), .int .u64 (k.fc : Int), .int .u64 (k.fs : Int), .slice A m cap, .slice B mb capB] 31 (0, 0)) ∧
    BcPost k ag w (.returned (.tuple #[.agg #[.int .u64 (k.dc : Int), .int .u64 (k.ds : Int), .int .u64 (k.fc : Int), .int .u64 (k.fs : Int), .slice A m cap, .slice B mb capB], .int .i64 0])) ((((((w5.setCell ⟨w.heap.size + 1, 0, none⟩ (.int .u64 (k.dc : Int))).setCell ⟨w.heap.size + 1, 1, none⟩ (.int .u64 (k.ds : Int))).setCell ⟨w.heap.size + 1, 2, none⟩ (.int .u64 (k.fc : Int))).setCell ⟨w.heap.size + 1, 3, none⟩ (.int .u64 (k.fs : Int))).setCell ⟨w.heap.size + 1, 4, none⟩ (.slice A m cap)).setCell ⟨w.heap.size + 1, 5, none⟩ (.slice B mb capB)) := by
  have hb5 : But (fun j => j = w.heap.size + 1) w5 ((((((w5.setCell ⟨w.heap.size + 1, 0, none⟩ (.int .u64 (k.dc : Int))).setCell ⟨w.heap.size + 1, 1, none⟩ (.int .u64 (k.ds : Int))).setCell ⟨w.heap.size + 1, 2, none⟩ (.int .u64 (k.fc : Int))).setCell ⟨w.heap.size + 1, 3, none⟩ (.int .u64 (k.fs : Int))).setCell ⟨w.heap.size + 1, 4, none⟩ (.slice A m cap)).setCell ⟨w.heap.size + 1, 5, none⟩ (.slice B mb capB)) :=
    ((((((But.refl (fun j => j = w.heap.size + 1) w5).setCell _ _ (fun _ => rfl)).setCell _ _ (fun _ => rfl)).setCell _ _ (fun _ => rfl)).setCell _ _ (fun _ => rfl)).setCell _ _ (fun _ => rfl)).setCell _ _ (fun _ => rfl)
  refine ⟨K.heap_setCell_at (K.heap_setCell_at (K.heap_setCell_at (K.heap_setCell_at (K.heap_setCell_at (K.heap_setCell_at hR _) _) _) _) _) _, A, cap, B, capB, by unfold keepV; rw [hm, hmb], hW.past hR hb5, hA.past hp hR hb5, But.below hB hb5 (fun j e => by omega) hB.size⟩
set_option maxHeartbeats 2000000 in
set_option maxRecDepth 100000 in
theorem bytes_any (k : Kp) (ag : List Ag) (A B : Option Addr) (cap capB : Nat) (w : World) (hW : WAt w A k.waits) (hB : AAt w B ag) (hk : BkOk k ag) :
    Calls Tryd.prog 14 #[keepV k A cap (.slice B ag.length capB)] w (BcPost k ag w) := by
  have hb0 : But (fun _ => False) w ((w.alloc (.cells (keepRow k A cap B ag.length capB).toArray 31)).alloc (.cells #[.int .u64 0, .int .u64 0, .int .u64 0, .int .u64 0, .slice none 0 0, .slice none 0 0] 31)) := ((But.refl _ w).alloc _).alloc _
  have h23 := inner_any k ag A B cap capB _ (hW.but hb0 (fun _ _ h => h)) (hB.but hb0 (fun _ _ h => h)) hk.f.l hk.f.la hk.f.snd.up hk.f.up hk.f.s hk.f.sa
  have hbA : Below w.heap.size w ((w.alloc (.cells (keepRow k A cap B ag.length capB).toArray 31)).alloc (.cells #[.int .u64 0, .int .u64 0, .int .u64 0, .int .u64 0, .slice none 0 0, .slice none 0 0] 31)) := ((Below.refl _ w).alloc (Nat.le_refl _) _).alloc (by simp) _
  have hR : ((w.alloc (.cells (keepRow k A cap B ag.length capB).toArray 31)).alloc (.cells #[.int .u64 0, .int .u64 0, .int .u64 0, .int .u64 0, .slice none 0 0, .slice none 0 0] 31)).heap[w.heap.size + 1]? = some (.cells #[.int .u64 0, .int .u64 0, .int .u64 0, .int .u64 0, .slice none 0 0, .slice none 0 0] 31 (0, 0)) := by
    have h := K.heap_alloc_at (w.alloc (.cells (keepRow k A cap B ag.length capB).toArray 31)) (.cells #[.int .u64 0, .int .u64 0, .int .u64 0, .int .u64 0, .slice none 0 0, .slice none 0 0] 31)
    rw [show (w.alloc (.cells (keepRow k A cap B ag.length capB).toArray 31)).heap.size = w.heap.size + 1 by simp] at h
    exact h
  have HF := Lib.hid hk
  have HB := Lib.hid (And.intro hbA hR)
  clear hW hB hk hb0 hbA hR
  unfold keepV at h23 ⊢
  unfold keepRow at h23 HB
  obtain ⟨n, hn⟩ : ∃ n, k.waits.length = n := ⟨_, rfl⟩
  obtain ⟨q, hq⟩ : ∃ q, ag.length = q := ⟨_, rfl⟩
  rw [hn, hq] at h23 HB ⊢
  have HN := Lib.hid (And.intro hn hq)
  clear hn hq
  go_enter Tryd.func14, Tryd.ntmps14
  go_wp2_with fail
  refine h23.mono ?_
  rintro e w1 ⟨S, pv, rv, rfl, _, hK, hP, hQ, hb⟩
  have h22 := enc22 S k ag w1 (enc_any S pv rv k ag w1 hK hP hQ HF.out.e HF.out.f.wa)
  have H1 := Lib.hid hb
  clear hK hP hQ hb h23
  go_wp2_with fail
  refine h22.mono ?_
  rintro e w2 ⟨bb, M, xs, ys, rfl, hx, hy, he, hM, hb⟩
  have h21 := dec21 bb _ M k ag w2 (decode_any bb _ M k ag ys xs w2 he rfl hM HF.out.e.n hy (by rw [hy.length_eq]; exact HF.out.f.la)
    (pw_a HF.out.e.ua hy) (fun x hx' => by
      have h1 := HF.out.e.a x (hy.mem_iff.1 hx')
      exact ⟨h1.1, h1.2.1, HF.out.a x (hy.mem_iff.1 hx'), h1.2.2⟩) hx (by rw [hx.length_eq]; exact HF.out.f.l) (pw_w HF.out.e.up hx) (fun x hx' => by
      have h1 := HF.out.e.w x (hx.mem_iff.1 hx')
      exact ⟨h1.1, h1.2.1, h1.2.2.1, h1.2.2.2.1, h1.2.2.2.2.1, h1.2.2.2.2.2, HF.out.t x (hx.mem_iff.1 hx')⟩))
  have H2 := Lib.hid hb
  obtain ⟨L, hL⟩ : ∃ L, (encAll k xs ys).length = L := ⟨_, rfl⟩
  rw [hL] at h21
  rw [hL]
  clear hx hy he hb hM h22 hL
  go_wp2_with fail
  refine h21.mono ?_
  rintro e w3 ⟨S3, pv3, rv3, rfl, hK, hP, hQ, h03, hb⟩
  have h19 := keep_all S3 12 pv3 rv3 k ag w3 hK hP hQ h03 HF.out.f
  have H3 := Lib.hid hb
  clear hK hP hQ h03 hb h21
  go_wp2_with fail
  refine h19.mono ?_
  rintro e w5 ⟨A5, cap5, B5, capB5, rfl, hW5, hB5, hb⟩
  have hbb : Below ((w.alloc (.cells #[.int .u64 (k.dc : Int), .int .u64 (k.ds : Int), .int .u64 (k.fc : Int), .int .u64 (k.fs : Int), .slice A n cap, .slice B q capB] 31)).alloc (.cells #[.int .u64 0, .int .u64 0, .int .u64 0, .int .u64 0, .slice none 0 0, .slice none 0 0] 31)).heap.size _ w5 :=
    ((H1.out.trans (H2.out.mono H1.out.size)).trans (H3.out.mono (Nat.le_trans H1.out.size H2.out.size))).trans (hb.mono (Nat.le_trans H1.out.size (Nat.le_trans H2.out.size H3.out.size)))
  have hR5 := (hbb.block (w.heap.size + 1) (by simp)).trans HB.out.2
  have r0 : w5.cell? ⟨w.heap.size + 1, 0, none⟩ = some (.int .u64 0) := cell_of hR5 rfl
  have r1 : w5.cell? ⟨w.heap.size + 1, 1, none⟩ = some (.int .u64 0) := cell_of hR5 rfl
  have r2 : w5.cell? ⟨w.heap.size + 1, 2, none⟩ = some (.int .u64 0) := cell_of hR5 rfl
  have r3 : w5.cell? ⟨w.heap.size + 1, 3, none⟩ = some (.int .u64 0) := cell_of hR5 rfl
  have r4 : w5.cell? ⟨w.heap.size + 1, 4, none⟩ = some (.slice none 0 0) := cell_of hR5 rfl
  have r5 : w5.cell? ⟨w.heap.size + 1, 5, none⟩ = some (.slice none 0 0) := cell_of hR5 rfl
  have f0 := thawed hR5 0
  have f1 := thawed hR5 1
  have f2 := thawed hR5 2
  have f3 := thawed hR5 3
  have f4 := thawed hR5 4
  have f5 := thawed hR5 5
  have H5 := Lib.hid (And.intro hR5 (And.intro hW5 (And.intro hB5 (HB.out.1.trans (hbb.mono (by simp; omega))))))
  clear hR5 hW5 hB5 hb hbb h19
  unfold keepV
  rw [HN.out.1, HN.out.2]
  go_wp2_with fail
  have hx := bc_fin k ag A5 B5 cap5 n capB5 q HN.out.1 HN.out.2 H5.out.1 H5.out.2.1 H5.out.2.2.1 HF.out.a H5.out.2.2.2
  refine bodyPost_ret (v := .tuple #[.agg #[.int .u64 (k.dc : Int), .int .u64 (k.ds : Int), .int .u64 (k.fc : Int), .int .u64 (k.fs : Int), .slice A5 n cap5, .slice B5 q capB5], .int .i64 0]) ?_ rfl hx.2
  have hld := run_loadVar_row (P := Tryd.prog) _ (w.heap.size + 1) 31 31 _ (0, 0) _ hx.1 Tryd.underlying31 rfl (by kernel_rfl)
  rw [results_cell_tmp rfl]
  simp [asAddr, Result.andThen, hld]
end Go.Proofs.YtchphfdoneckeaaDoor
