/-
  Update: a new store is given a state, and has it.
-/
import Derived.Test.YtchphfdoneckeaaDoorIn
import Derived.Test.YtchphfdoneckeaaDoorCr
import Derived.BigQuiet
namespace Go.Proofs.YtchphfdoneckeaaDoor
open Go.RowKit Go.MuLone
open Cs (Wt Kp Ag)

def UpPost (m n : Nat) (k : Kp) (ag : List Ag) (ack : Int) (w : World) (e : Ending) (w' : World) : Prop :=
  e = .returned .nilIface ∧ ∃ pv rv, Row w' m 0 k pv rv ack ∧ Pend w' pv n k.waits ∧ Redel w' rv n ag ∧ (ag = [] → rv = .map none) ∧ But (fun j => j = m) w w'
theorem up_end {w V V2 : World} {m n : Nat} {k : Kp} {ag : List Ag} {pv rv : Value} {ack : Int} (hR : Row V2 m 1 Cs.k0 (.map none) (.map none) ack) (hb : But (fun j => j = m) w V) (hb2 : But (fun j => j = m) V V2) (hP : Pend V pv n k.waits) (hQ : Redel V rv n ag) (h0 : ag = [] → rv = .map none)
    (hpm : ∀ b, pv = .map (some b) → b ≠ m) (hrm : ∀ b, rv = .map (some b) → b ≠ m) (h93 : ∀ cs f, V.heap[m]? ≠ some (.cells cs 93 f)) :
    Row (((((((V2.setCell ⟨m, 4, none⟩ (.int .u64 (k.dc : Int))).setCell ⟨m, 5, none⟩ (.int .u64 (k.ds : Int))).setCell ⟨m, 6, none⟩ (.int .u64 (k.fc : Int))).setCell ⟨m, 7, none⟩ (.int .u64 (k.fs : Int))).setCell ⟨m, 8, none⟩ pv).setCell ⟨m, 9, none⟩ rv)) m 1 k pv rv ack ∧
    UpPost m n k ag ack w (.returned .nilIface) ((((((((V2.setCell ⟨m, 4, none⟩ (.int .u64 (k.dc : Int))).setCell ⟨m, 5, none⟩ (.int .u64 (k.ds : Int))).setCell ⟨m, 6, none⟩ (.int .u64 (k.fc : Int))).setCell ⟨m, 7, none⟩ (.int .u64 (k.fs : Int))).setCell ⟨m, 8, none⟩ pv).setCell ⟨m, 9, none⟩ rv)).setCell ⟨m, 0, none⟩ (.int .i32 0)) := by
  have r1 := (((((hR.setDc k.dc).setDs k.ds).setFc k.fc).setFs k.fs).setP pv).setR rv
  have hb3 : But (fun j => j = m) V2 ((((((V2.setCell ⟨m, 4, none⟩ (.int .u64 (k.dc : Int))).setCell ⟨m, 5, none⟩ (.int .u64 (k.ds : Int))).setCell ⟨m, 6, none⟩ (.int .u64 (k.fc : Int))).setCell ⟨m, 7, none⟩ (.int .u64 (k.fs : Int))).setCell ⟨m, 8, none⟩ pv).setCell ⟨m, 9, none⟩ rv) :=
    ((((((But.refl (fun j => j = m) V2).setCell ⟨m, 4, none⟩ (.int .u64 (k.dc : Int)) (fun _ => rfl)).setCell ⟨m, 5, none⟩ (.int .u64 (k.ds : Int)) (fun _ => rfl)).setCell ⟨m, 6, none⟩ (.int .u64 (k.fc : Int)) (fun _ => rfl)).setCell ⟨m, 7, none⟩ (.int .u64 (k.fs : Int)) (fun _ => rfl)).setCell ⟨m, 8, none⟩ pv (fun _ => rfl)).setCell ⟨m, 9, none⟩ rv (fun _ => rfl)
  generalize ((((((V2.setCell ⟨m, 4, none⟩ (.int .u64 (k.dc : Int))).setCell ⟨m, 5, none⟩ (.int .u64 (k.ds : Int))).setCell ⟨m, 6, none⟩ (.int .u64 (k.fc : Int))).setCell ⟨m, 7, none⟩ (.int .u64 (k.fs : Int))).setCell ⟨m, 8, none⟩ pv).setCell ⟨m, 9, none⟩ rv) = X at r1 hb3 ⊢
  have hb4 : But (fun j => j = m) V (X.setCell ⟨m, 0, none⟩ (.int .i32 0)) := ((hb2.trans hb3).trans ((But.refl (fun j => j = m) X).setCell ⟨m, 0, none⟩ (.int .i32 0) (fun _ => rfl)))
  refine ⟨r1, rfl, pv, rv, r1.lock 0, hP.but hb4 ⟨hpm, fun p cs f hp => by rw [hp]; exact h93 cs f⟩, hQ.but hb4 hrm, h0, hb.trans hb4⟩
theorem Pend1.pend {S : Nat} {w : World} {pv : Value} {l : List Wt} (h : Pend1 S w pv l.length l) : Pend w pv l.length l := by
  rcases h with ⟨h1, h2⟩ | ⟨b, D, h1, h2, h3, h4⟩
  · exact Or.inl ⟨h2, List.eq_nil_of_length_eq_zero h1⟩
  · rw [List.take_length] at h3
    exact Or.inr ⟨b, D, h2, h3⟩

set_option maxHeartbeats 8000000 in
set_option maxRecDepth 100000 in
theorem update_any (m S : Nat) (k : Kp) (ag : List Ag) (pv rv : Value) (ack : Int) (w : World) (hR : Row w m 0 Cs.k0 (.map none) (.map none) ack) (hK : KeptAt w S k pv rv) (hP : Pend1 S w pv k.waits.length k.waits) (hQ : Redel1 S w rv ag.length ag)
    (hk : Cs.Sound k) (hl : k.waits.length ≤ 12) (hla : ag.length ≤ 12) (hwa : k.waits = [] → ag = []) (hua : Cs.AUp ag) (hs : ∀ x ∈ k.waits, x.s < 18446744073709551616) (hsa : ∀ x ∈ ag, x.s < 18446744073709551616 ∧ x.n < 18446744073709551616) :
    Calls Tryd.prog 27 #[.pointer (some ⟨m, 0, none⟩), .pointer (some ⟨S, 0, none⟩)] w (UpPost m 12 k ag ack w) := by
  have hmS : S ≠ m := by
    rintro rfl
    have h := (show w.heap[S]? = _ from hR).symm.trans hK
    injection h with h
    injection h with _ h _
    exact absurd h (by decide)
  have d0 := hK.c0
  have d1 := hK.c1
  have d2 := hK.c2
  have d3 := hK.c3
  have g1 : decide (k.dc < k.fc) = false := by have := hk.fc; simp; omega
  have g2 : decide (k.ds < k.fs) = false := by have := hk.fs; simp; omega
  have HA := Lib.hid (And.intro hR (And.intro hK (And.intro hP hQ)))
  have HU := Lib.hid (And.intro hk (And.intro hwa (And.intro hua (And.intro hs hsa))))
  have HL := Lib.hid (And.intro hl hla)
  clear hR hK hP hQ hk hwa hua hs hsa hl hla
  go_enter_defers Tryd.func27, Tryd.ntmps27
  go_wp2_with fail
  go_quiet (fail)
  generalize nq = nA
  go_wp2_with fail
  go_quiet (fail)
  go_upto_region 7 with fail
  have hbW : But (fun _ => False) w ((w.drewN nA).drewN nq) := (((But.refl _ w).drewN nA).drewN nq)
  generalize ((w.drewN nA).drewN nq) = W at hbW ⊢
  have hRW : Row W m 0 Cs.k0 (.map none) (.map none) ack := HA.out.1.but hbW (fun h => h)
  have hKW : KeptAt W S k pv rv := (hbW.block S (lt_of_heap HA.out.2.1) (fun h => h)).trans HA.out.2.1
  have s4 := hKW.c4
  have s5 := hKW.c5
  have HW := Lib.hid (And.intro hbW (And.intro hRW hKW))
  clear hbW hRW hKW d0 d1 d2 d3 g1 g2
  by_cases hw0 : k.waits = []
  · as_aux_lemma =>
    have ha0 := HU.out.2.1 hw0
    have hpv : pv = .map none := by
      rcases HA.out.2.2.1 with ⟨_, h⟩ | ⟨b, D, h, _⟩
      · exact h
      · rw [hw0] at h; simp at h
    have hrv : rv = .map none := by
      rcases HA.out.2.2.2 with ⟨_, h⟩ | ⟨b, D, h, _⟩
      · exact h
      · rw [ha0] at h; simp at h
    subst hpv
    subst hrv
    have hln := fun (w : World) (ty : TypeId) => Maps.len_nil (w := w) Tryd.underlying79 ty
    have hln2 := fun (w : World) (ty : TypeId) => Maps.len_nil (w := w) Tryd.underlying80 ty
    have HT : Hid (Row W m 0 Cs.k0 (.map none) (.map none) ack ∧ KeptAt W S k (.map none) (.map none) ∧ Pend W (.map none) 12 k.waits ∧ Redel W (.map none) 12 ag ∧ But (fun j => j = m) w W) :=
      Lib.hid ⟨HW.out.2.1, HW.out.2.2, Or.inl ⟨rfl, hw0⟩, Or.inl ⟨rfl, ha0⟩, HW.out.1.mono (fun _ _ h => h.elim)⟩
    clear hw0 ha0
    go_upto_region 21 with fail
    clear s4 s5 hln hln2
    have hR := HT.out.1
    have hlf := lock_free muLib ⟨m, 0, none⟩ W hR.c0 (hR.fz 0)
    clear hR
    go_upto_region 23 with fail
    refine hlf.mono ?_
    rintro e w1 ⟨rfl, hw1⟩
    have hb1 : But (fun j => j = m) W w1 := by
      rw [hw1]
      exact (But.refl _ _).setCell _ _ (fun _ => rfl)
    have hR1 := HT.out.1.lock 1
    rw [← hw1] at hR1
    clear hw1 hlf
    have hK1 := (hb1.block S (lt_of_heap HT.out.2.1) hmS).trans HT.out.2.1
    have c4 : w1.cell? ⟨m, 4, none⟩ = some (.int .u64 0) := hR1.c4
    have c7 : w1.cell? ⟨m, 7, none⟩ = some (.int .u64 0) := hR1.c7
    have e0 := KeptAt.c0 hK1
    have e3 := KeptAt.c3 hK1
    have H1 := Lib.hid (And.intro hb1 (And.intro hR1 hK1))
    clear hb1 hR1 hK1
    go_upto_region 23 with fail
    go_quiet (fail)
    go_upto_region 25 with fail
    clear c4 c7 e0 e3
    have hb2 : But (fun j => j = m) W (w1.drewN nq) := H1.out.1.drewN nq
    have hR2 : Row (w1.drewN nq) m 1 Cs.k0 (.map none) (.map none) ack := H1.out.2.1
    have hK2 := (hb2.block S (lt_of_heap HT.out.2.1) hmS).trans HT.out.2.1
    generalize w1.drewN nq = V2 at hb2 hR2 hK2 ⊢
    have e0 := KeptAt.c0 hK2
    have e1 := KeptAt.c1 hK2
    have q4 : V2.cell? ⟨m, 4, none⟩ = some (.int .u64 0) := hR2.c4
    have q5 : V2.cell? ⟨m, 5, none⟩ = some (.int .u64 0) := hR2.c5
    have q6 : V2.cell? ⟨m, 6, none⟩ = some (.int .u64 0) := hR2.c6
    have q7 : V2.cell? ⟨m, 7, none⟩ = some (.int .u64 0) := hR2.c7
    have q8 := hR2.c8
    have q9 := hR2.c9
    have f4 := hR2.fz 4
    have f5 := hR2.fz 5
    have f6 := hR2.fz 6
    have f7 := hR2.fz 7
    have f8 := hR2.fz 8
    have f9 := hR2.fz 9
    have x2 : ((V2.setCell ⟨m, 4, none⟩ (.int .u64 (k.dc : Int))).setCell ⟨m, 5, none⟩ (.int .u64 (k.ds : Int))).cell? ⟨S, 2, none⟩ = some (.int .u64 (k.fc : Int)) := by
      rw [World.cell?_setCell_other _ _ _ _ (fun e => by injection e with e; exact hmS e.symm), World.cell?_setCell_other _ _ _ _ (fun e => by injection e with e; exact hmS e.symm)]; exact KeptAt.c2 hK2
    have x3 : ((V2.setCell ⟨m, 4, none⟩ (.int .u64 (k.dc : Int))).setCell ⟨m, 5, none⟩ (.int .u64 (k.ds : Int))).cell? ⟨S, 3, none⟩ = some (.int .u64 (k.fs : Int)) := by
      rw [World.cell?_setCell_other _ _ _ _ (fun e => by injection e with e; exact hmS e.symm), World.cell?_setCell_other _ _ _ _ (fun e => by injection e with e; exact hmS e.symm)]; exact KeptAt.c3 hK2
    have H2 := Lib.hid (And.intro hb2 hR2)
    clear hb2 hR2 hK2
    go_wp2_with fail
    refine leaves_cons (f := 37) (args := #[.pointer (some ⟨m, 0, none⟩)]) (by simp) (by simp [go_sem]) ?_
    have hE := up_end H2.out.2 HT.out.2.2.2.2 H2.out.1 HT.out.2.2.1 HT.out.2.2.2.1 (fun _ => rfl) (fun b h => by cases h) (fun b h => by cases h) (fun cs f => HT.out.1.not93 cs f)
    refine (unlock_deferred muLib ⟨m, 0, none⟩ .returning _ hE.1.c0 (hE.1.fz 0)).mono ?_
    rintro e u' w'' ⟨rfl, rfl, rfl⟩
    refine ⟨_, results_tmp rfl _ _ _, ?_⟩
    exact hE.2
  · obtain ⟨b, D, hpv, hPM, hSb⟩ : ∃ b D, pv = .map (some b) ∧ PMap W b k.waits.length D k.waits ∧ S < b := by
      rcases HA.out.2.2.1 with ⟨h, _⟩ | ⟨b, D, _, h2, h3, h4⟩
      · exact absurd (List.eq_nil_of_length_eq_zero h) hw0
      · rw [List.take_length] at h3
        exact ⟨b, D, h2, h3.but HW.out.1 (fun h => h) (fun _ _ _ h => h.elim), h4⟩
    subst hpv
    obtain ⟨n, hn⟩ : ∃ n, k.waits.length = n := ⟨_, rfl⟩
    rw [hn] at hPM
    have hn12 : n ≤ 12 := by have := HL.out.1; omega
    have hown := hPM.own
    have hz : (0 : Int) < (Maps.size D : Int) := by
      have := mt hPM.size_pos.1 hw0
      omega
    have hsz := hPM.own.size_le
    have hmk := run_makeMap_hint
    have HO := Lib.hid (hPM.own.alloc (.map #[] 0))
    have e1 : (W.alloc (.map #[] 0)).heap.size = W.heap.size + 1 := by simp
    have s4' := past s4
    have HP := Lib.hid (And.intro hPM (And.intro hn (And.intro hw0 hSb)))
    clear hPM hn hw0 hSb
    go_wp2_with (first
      | (at_len; refine wpList_len_own _ rfl _ 79 rfl 25 91 Tryd.underlying79 PtrE b n D rfl hown ?_)
      | (at_range; refine wpList_range_own _ rfl _ 79 rfl 25 91 K25 Tryd.underlying79 PtrE b n D rfl HO.out ?_; intro w0 hrg0 hg0 hs0)
      | go_in)
    go_frame
    rw [e1] at hrg0 hs0 ⊢
    clear s4 s5 s4' hmk HO
    go_loopw [7, 8] (fun _ _ wr => ∃ (left : Lit → Bool) (cnt : Nat), Hid (CpRel W b n D k.waits left cnt wr)) (fun _ _ wr => wr.rangeLeft b (W.heap.size + 1))
    case atStart =>
      refine ⟨_, _, Lib.hid ⟨hrg0, Nat.le_refl _, ⟨.map [], ?_⟩, HP.out.1.move (((hown.alloc _)).kept hg0 (by simp)) fun p x hp => ?_, fun _ h => h, ((Below.refl _ _).alloc (Nat.le_refl _) _).grown hg0 (by simp) (fun j hj => by cases hj)⟩⟩
      · rw [come_start (fun x hx => HP.out.1.has_of hx)]
        exact PMap.empty ((((World.ownsMap_made _ _ _ _).kept hg0 (by simp))).mono (Nat.zero_le _))
      · exact pcell_grown hg0 (by simp) ((Below.heap_alloc _ _ _ (lt_of_heap hp)).trans hp)
    case round =>
      obtain ⟨left, cnt, HREL⟩ := hrel
      go_wp2_with (first
        | (at_next; refine wpList_next_pend _ rfl _ rfl b (W.heap.size + 1) n D left cnt k.waits rfl HREL.out.src HREL.out.rg HREL.out.has ?_ ?_)
        | go_in)
      · intro hc0 hl0
        as_aux_lemma =>
          obtain ⟨D', hDo⟩ := HREL.out.out
          rw [come_end hl0] at hDo
          have hc : Maps.size D - cnt ≤ 12 := by omega
          have hPN : PMap wr W.heap.size 12 D' k.waits := ⟨hDo.own.mono hc, hDo.at_, hDo.only⟩
          have hbV : But (fun j => j = m) w wr := ((HW.out.1.mono (fun _ _ h => h.elim) : But (fun j => j = m) w W)).trans (But.of HREL.out.bl)
          have hRV : Row wr m 0 Cs.k0 (.map none) (.map none) ack := HW.out.2.1.at (HREL.out.bl.block m HW.out.2.1.lt)
          have hKV : KeptAt wr S k (.map (some b)) rv := (HREL.out.bl.block _ (lt_of_heap HW.out.2.2)).trans HW.out.2.2
          have s5 := hKV.c5
          have hmW := HW.out.2.1.lt
          have HV := Lib.hid (And.intro hPN (And.intro hbV (And.intro hRV (And.intro hKV hmW))))
          clear hPN hbV hRV hKV hmW hDo hc hc0 hl0
          by_cases ha0 : ag = []
          · have hrv : rv = .map none := by
              rcases HA.out.2.2.2 with ⟨_, h⟩ | ⟨b, D, h, _⟩
              · exact h
              · rw [ha0] at h; simp at h
            subst hrv
            have hln2 := fun (w : World) (ty : TypeId) => Maps.len_nil (w := w) Tryd.underlying80 ty
            have HT : Hid (Row wr m 0 Cs.k0 (.map none) (.map none) ack ∧ KeptAt wr S k (.map (some b)) (.map none) ∧ Pend wr (.map (some W.heap.size)) 12 k.waits ∧ Redel wr (.map none) 12 ag ∧ But (fun j => j = m) w wr) :=
              Lib.hid ⟨HV.out.2.2.1, HV.out.2.2.2.1, Or.inr ⟨_, _, rfl, HV.out.1⟩, Or.inl ⟨rfl, ha0⟩, HV.out.2.1⟩
            clear ha0
            go_upto_region 21 with fail
            clear s5 hln2
            have hR := HT.out.1
            have hlf := lock_free muLib ⟨m, 0, none⟩ wr hR.c0 (hR.fz 0)
            clear hR
            go_upto_region 23 with fail
            refine hlf.mono ?_
            rintro e w1 ⟨rfl, hw1⟩
            have hb1 : But (fun j => j = m) wr w1 := by
              rw [hw1]
              exact (But.refl _ _).setCell _ _ (fun _ => rfl)
            have hR1 := HT.out.1.lock 1
            rw [← hw1] at hR1
            clear hw1 hlf
            have hK1 := (hb1.block S (lt_of_heap HT.out.2.1) hmS).trans HT.out.2.1
            have c4 : w1.cell? ⟨m, 4, none⟩ = some (.int .u64 0) := hR1.c4
            have c7 : w1.cell? ⟨m, 7, none⟩ = some (.int .u64 0) := hR1.c7
            have e0 := KeptAt.c0 hK1
            have e3 := KeptAt.c3 hK1
            have H1 := Lib.hid (And.intro hb1 (And.intro hR1 hK1))
            clear hb1 hR1 hK1
            go_upto_region 23 with fail
            go_quiet (fail)
            go_upto_region 25 with fail
            clear c4 c7 e0 e3
            have hb2 : But (fun j => j = m) wr (w1.drewN nq) := H1.out.1.drewN nq
            have hR2 : Row (w1.drewN nq) m 1 Cs.k0 (.map none) (.map none) ack := H1.out.2.1
            have hK2 := (hb2.block S (lt_of_heap HT.out.2.1) hmS).trans HT.out.2.1
            generalize w1.drewN nq = V2 at hb2 hR2 hK2 ⊢
            have e0 := KeptAt.c0 hK2
            have e1 := KeptAt.c1 hK2
            have q4 : V2.cell? ⟨m, 4, none⟩ = some (.int .u64 0) := hR2.c4
            have q5 : V2.cell? ⟨m, 5, none⟩ = some (.int .u64 0) := hR2.c5
            have q6 : V2.cell? ⟨m, 6, none⟩ = some (.int .u64 0) := hR2.c6
            have q7 : V2.cell? ⟨m, 7, none⟩ = some (.int .u64 0) := hR2.c7
            have q8 := hR2.c8
            have q9 := hR2.c9
            have f4 := hR2.fz 4
            have f5 := hR2.fz 5
            have f6 := hR2.fz 6
            have f7 := hR2.fz 7
            have f8 := hR2.fz 8
            have f9 := hR2.fz 9
            have x2 : ((V2.setCell ⟨m, 4, none⟩ (.int .u64 (k.dc : Int))).setCell ⟨m, 5, none⟩ (.int .u64 (k.ds : Int))).cell? ⟨S, 2, none⟩ = some (.int .u64 (k.fc : Int)) := by
              rw [World.cell?_setCell_other _ _ _ _ (fun e => by injection e with e; exact hmS e.symm), World.cell?_setCell_other _ _ _ _ (fun e => by injection e with e; exact hmS e.symm)]; exact KeptAt.c2 hK2
            have x3 : ((V2.setCell ⟨m, 4, none⟩ (.int .u64 (k.dc : Int))).setCell ⟨m, 5, none⟩ (.int .u64 (k.ds : Int))).cell? ⟨S, 3, none⟩ = some (.int .u64 (k.fs : Int)) := by
              rw [World.cell?_setCell_other _ _ _ _ (fun e => by injection e with e; exact hmS e.symm), World.cell?_setCell_other _ _ _ _ (fun e => by injection e with e; exact hmS e.symm)]; exact KeptAt.c3 hK2
            have H2 := Lib.hid (And.intro hb2 hR2)
            clear hb2 hR2 hK2
            go_wp2_with fail
            refine leaves_cons (f := 37) (args := #[.pointer (some ⟨m, 0, none⟩)]) (by simp) (by simp [go_sem]) ?_
            have hE := up_end H2.out.2 HT.out.2.2.2.2 H2.out.1 HT.out.2.2.1 HT.out.2.2.2.1 (fun _ => rfl) (fun b h => by cases h; have := HV.out.2.2.2.2; omega) (fun b h => by cases h) (fun cs f => HT.out.1.not93 cs f)
            refine (unlock_deferred muLib ⟨m, 0, none⟩ .returning _ hE.1.c0 (hE.1.fz 0)).mono ?_
            rintro e u' w'' ⟨rfl, rfl, rfl⟩
            refine ⟨_, results_tmp rfl _ _ _, ?_⟩
            exact hE.2
          · obtain ⟨rb, E, hrv, hRM⟩ : ∃ rb E, rv = .map (some rb) ∧ RMap wr rb ag.length E ag := by
              rcases HA.out.2.2.2 with ⟨h, _⟩ | ⟨b, D, _, h2, h3, h4⟩
              · exact absurd (List.eq_nil_of_length_eq_zero h) ha0
              · rw [List.take_length] at h3
                exact ⟨b, D, h2, (h3.but HW.out.1 (fun h => h)).but (S := fun _ => False) (But.of HREL.out.bl) (fun h => h)⟩
            subst hrv
            obtain ⟨na, hna⟩ : ∃ na, ag.length = na := ⟨_, rfl⟩
            rw [hna] at hRM
            have hna12 : na ≤ 12 := by have := HL.out.2; omega
            have hownR := hRM.own
            have hzE : (0 : Int) < (Maps.size E : Int) := by
              have := mt hRM.size_pos.1 ha0
              omega
            have hszE := hRM.own.size_le
            have hmk2 := run_makeMap_hint80
            generalize wr = V0 at HREL HV hRM hownR s5 ⊢
            have HOR := Lib.hid (hRM.own.alloc (.map #[] 0))
            have e1R : (V0.alloc (.map #[] 0)).heap.size = V0.heap.size + 1 := by simp
            have s5' := past s5
            have HRM := Lib.hid (And.intro hRM (And.intro hna ha0))
            clear hRM hna ha0
            go_wp2_with (first
              | (at_len; refine wpList_len_own _ rfl _ 80 rfl 25 25 Tryd.underlying80 NumE rb na E rfl hownR ?_)
              | (at_range; refine wpList_range_own _ rfl _ 80 rfl 25 25 K25 Tryd.underlying80 NumE rb na E rfl HOR.out ?_; intro wk hrgk hgk hsk)
              | go_in)
            go_frame
            rw [e1R] at hrgk hsk ⊢
            clear s5 s5' hmk2 HOR
            go_loopw [9, 10] (fun _ _ wr => ∃ (left : Lit → Bool) (cnt : Nat), Hid (CrRel V0 rb na E ag left cnt wr)) (fun _ _ wr => wr.rangeLeft rb (V0.heap.size + 1))
            case atStart =>
              refine ⟨_, _, Lib.hid ⟨hrgk, Nat.le_refl _, ⟨.map [], ?_⟩, HRM.out.1.move (((hownR.alloc _)).kept hgk (by simp)), fun _ h => h, ((Below.refl _ _).alloc (Nat.le_refl _) _).grown hgk (by simp) (fun j hj => by cases hj)⟩⟩
              rw [comeA_start (fun x hx => HRM.out.1.has_of hx)]
              exact RMap.empty ((((World.ownsMap_made _ _ _ _).kept hgk (by simp))).mono (Nat.zero_le _))
            case round =>
              obtain ⟨leftA, cntA, HRA⟩ := hrel
              go_wp2_with (first
                | (at_next; refine wpList_next_redel _ rfl _ rfl rb (V0.heap.size + 1) na E leftA cntA ag rfl HRA.out.src HRA.out.rg HRA.out.has ?_ ?_)
                | go_in)
              · intro hc0 hl0
                as_aux_lemma =>
                obtain ⟨E', hEo⟩ := HRA.out.out
                rw [comeA_end hl0] at hEo
                have hQN : RMap wr V0.heap.size 12 E' ag := hEo.mono (by omega)
                have hV0 := HRA.out.bl
                have hbT : But (fun _ => False) V0 wr := But.of hV0
                have HT : Hid (Row wr m 0 Cs.k0 (.map none) (.map none) ack ∧ KeptAt wr S k (.map (some b)) (.map (some rb)) ∧ Pend wr (.map (some W.heap.size)) 12 k.waits ∧ Redel wr (.map (some V0.heap.size)) 12 ag ∧ But (fun j => j = m) w wr) :=
                  Lib.hid ⟨HV.out.2.2.1.but hbT (fun h => h), (hbT.block _ (lt_of_heap HV.out.2.2.2.1) (fun h => h)).trans HV.out.2.2.2.1, Or.inr ⟨_, _, rfl, HV.out.1.but hbT (fun h => h) (fun _ _ _ h => h.elim)⟩, Or.inr ⟨_, _, rfl, hQN⟩, HV.out.2.1.trans (hbT.mono (fun _ _ h => h.elim))⟩
                clear hEo hQN hV0 hbT hc0 hl0
                go_upto_region 21 with fail
                have hR := HT.out.1
                have hlf := lock_free muLib ⟨m, 0, none⟩ wr hR.c0 (hR.fz 0)
                clear hR
                go_upto_region 23 with fail
                refine hlf.mono ?_
                rintro e w1 ⟨rfl, hw1⟩
                have hb1 : But (fun j => j = m) wr w1 := by
                  rw [hw1]
                  exact (But.refl _ _).setCell _ _ (fun _ => rfl)
                have hR1 := HT.out.1.lock 1
                rw [← hw1] at hR1
                clear hw1 hlf
                have hK1 := (hb1.block S (lt_of_heap HT.out.2.1) hmS).trans HT.out.2.1
                have c4 : w1.cell? ⟨m, 4, none⟩ = some (.int .u64 0) := hR1.c4
                have c7 : w1.cell? ⟨m, 7, none⟩ = some (.int .u64 0) := hR1.c7
                have e0 := KeptAt.c0 hK1
                have e3 := KeptAt.c3 hK1
                have H1 := Lib.hid (And.intro hb1 (And.intro hR1 hK1))
                clear hb1 hR1 hK1
                go_upto_region 23 with fail
                go_quiet (fail)
                go_upto_region 25 with fail
                clear c4 c7 e0 e3
                have hb2 : But (fun j => j = m) wr (w1.drewN nq) := H1.out.1.drewN nq
                have hR2 : Row (w1.drewN nq) m 1 Cs.k0 (.map none) (.map none) ack := H1.out.2.1
                have hK2 := (hb2.block S (lt_of_heap HT.out.2.1) hmS).trans HT.out.2.1
                generalize w1.drewN nq = V2 at hb2 hR2 hK2 ⊢
                have e0 := KeptAt.c0 hK2
                have e1 := KeptAt.c1 hK2
                have q4 : V2.cell? ⟨m, 4, none⟩ = some (.int .u64 0) := hR2.c4
                have q5 : V2.cell? ⟨m, 5, none⟩ = some (.int .u64 0) := hR2.c5
                have q6 : V2.cell? ⟨m, 6, none⟩ = some (.int .u64 0) := hR2.c6
                have q7 : V2.cell? ⟨m, 7, none⟩ = some (.int .u64 0) := hR2.c7
                have q8 := hR2.c8
                have q9 := hR2.c9
                have f4 := hR2.fz 4
                have f5 := hR2.fz 5
                have f6 := hR2.fz 6
                have f7 := hR2.fz 7
                have f8 := hR2.fz 8
                have f9 := hR2.fz 9
                have x2 : ((V2.setCell ⟨m, 4, none⟩ (.int .u64 (k.dc : Int))).setCell ⟨m, 5, none⟩ (.int .u64 (k.ds : Int))).cell? ⟨S, 2, none⟩ = some (.int .u64 (k.fc : Int)) := by
                  rw [World.cell?_setCell_other _ _ _ _ (fun e => by injection e with e; exact hmS e.symm), World.cell?_setCell_other _ _ _ _ (fun e => by injection e with e; exact hmS e.symm)]; exact KeptAt.c2 hK2
                have x3 : ((V2.setCell ⟨m, 4, none⟩ (.int .u64 (k.dc : Int))).setCell ⟨m, 5, none⟩ (.int .u64 (k.ds : Int))).cell? ⟨S, 3, none⟩ = some (.int .u64 (k.fs : Int)) := by
                  rw [World.cell?_setCell_other _ _ _ _ (fun e => by injection e with e; exact hmS e.symm), World.cell?_setCell_other _ _ _ _ (fun e => by injection e with e; exact hmS e.symm)]; exact KeptAt.c3 hK2
                have H2 := Lib.hid (And.intro hb2 hR2)
                clear hb2 hR2 hK2
                go_wp2_with fail
                refine leaves_cons (f := 37) (args := #[.pointer (some ⟨m, 0, none⟩)]) (by simp) (by simp [go_sem]) ?_
                have hE := up_end H2.out.2 HT.out.2.2.2.2 H2.out.1 HT.out.2.2.1 HT.out.2.2.2.1 (fun h => absurd h HRM.out.2.2) (fun b h => by cases h; have := HV.out.2.2.2.2; omega) (fun b h => by cases h; have := HV.out.2.2.1.lt; omega) (fun cs f => HT.out.1.not93 cs f)
                refine (unlock_deferred muLib ⟨m, 0, none⟩ .returning _ hE.1.c0 (hE.1.fz 0)).mono ?_
                rintro e u' w'' ⟨rfl, rfl, rfl⟩
                refine ⟨_, results_tmp rfl _ _ _, ?_⟩
                exact hE.2
              · intro x w1 cnt1 hx hlx hrg1 hlt hg1 hs1 hen
                obtain ⟨E', hout⟩ := HRA.out.out
                have hle := HRA.out.le
                have hltm : V0.heap.size < w1.heap.size := by have := HRA.out.bl.size; have := hout.own.lt; omega
                have hout1 : w1.ownsMap Tryd.prog 25 NumE V0.heap.size (Maps.size E - cntA) E' := hout.own.kept hg1 (by simp)
                obtain ⟨w2, hrun, hown2, hg2⟩ := hout1.update K25 Tryd.underlying80 (by unfold maxLen; omega) (key_of (HU.out.2.2.2.2 x hx).1) (numE (HU.out.2.2.2.2 x hx).2)
                have HG := Lib.hid (And.intro hx (And.intro hlx (And.intro hrg1 (And.intro hlt (And.intro hg1 (And.intro hout (And.intro hown2 hg2)))))))
                clear hx hlx hrg1 hlt hg1 hout hout1 hown2 hg2
                go_wp2_with fail
                obtain ⟨gx, glx, grg1, glt, gg1, gout, gown2, gg2⟩ := HG.out
                have hb := hownR.lt
                have hbl := HRA.out.bl
                have hrg2 := grg1.kept (w' := w2) gg2 (fun e => by have := Option.some.inj e; omega) (fun e => by have := Option.some.inj e; omega)
                have hsrc := HRA.out.src.move ((HRA.out.src.own.kept gg1 (fun e => by have := Option.some.inj e; omega)).kept gg2 (fun e => by have := Option.some.inj e; omega))
                have hput := gout.put gown2 (comeA_step HU.out.2.2.1 gx glx) (comeA_new glx)
                have HF := Lib.hid (show CrRel V0 rb na E ag (fun z => leftA z && !z.sameKey (key x.s)) cnt1 w2 from
                  ⟨hrg2, by omega, ⟨_, hput.mono (by omega)⟩, hsrc, fun kl h => HRA.out.has kl (by simp at h; exact h.1),
                   (hbl.grown gg1 hbl.size (fun j hj => by cases hj; omega)).grown gg2 (by omega) (fun j hj => by cases hj; exact Nat.le_refl _)⟩)
                have hm1 := hrg2.left_eq
                have hm0 := HRA.out.rg.left_eq
                clear hput hsrc gout gown2 gg2 gg1 hrg2 grg1
                exact ⟨⟨_, cnt1, HF⟩, by rw [hm1, hm0]; exact glt⟩
      · intro x p w1 cnt1 hx hpc hlx hrg1 hlt hg1 hs1 hen
        as_aux_lemma =>
          have hpc1 : PCell w1 p x := pcell_grown hg1 (fun q cs f e => by cases e; exact not93_iter HREL.out.rg cs f) hpc
          have k0 : w1.cell? ⟨p, 0, none⟩ = some (.int .u64 (x.c : Int)) := cell_of hpc1 rfl
          have k1 : w1.cell? ⟨p, 1, none⟩ = some (.int .i64 x.t) := cell_of hpc1 rfl
          obtain ⟨D', hout⟩ := HREL.out.out
          have hle := HREL.out.le
          have hltm : W.heap.size < w1.heap.size := by have := HREL.out.bl.size; have := hout.own.lt; omega
          have hout1 : w1.ownsMap Tryd.prog 25 PtrE W.heap.size (Maps.size D - cnt) D' := hout.own.kept hg1 (by simp)
          obtain ⟨w2, hrun, hown2, hg2⟩ := ((hout1.alloc (.cells #[.int .u64 (x.c : Int), .int .i64 x.t] 93)).drew).update K25 Tryd.underlying79 (by unfold maxLen; omega) (key_of (HU.out.2.2.2.1 x hx)) (val := .pointer (some ⟨wr.heap.size, 0, none⟩)) (d := .lit (.int .u64 (wr.heap.size : Int))) (ps := []) rfl
          have HG := Lib.hid (And.intro hx (And.intro hlx (And.intro hrg1 (And.intro hlt (And.intro hg1 (And.intro hpc1 (And.intro hout (And.intro hown2 hg2))))))))
          clear hx hlx hrg1 hlt hg1 hpc hpc1 hout hout1 hown2 hg2
          go_wp2_with fail
          go_region
          obtain ⟨gx, glx, grg1, glt, gg1, gpc1, gout, gown2, gg2⟩ := HG.out
          have hb := hown.lt
          have hbl := HREL.out.bl
          have hsz2 : (w1.alloc (.cells #[.int .u64 (x.c : Int), .int .i64 x.t] 93)).drew.heap.size = w1.heap.size + 1 := by simp
          have hmove : ∀ q y, PCell wr q y → PCell w2 q y := fun q y hq => by
            have h1 := pcell_grown gg1 (fun q cs f e => by cases e; exact not93_iter HREL.out.rg cs f) hq
            have h2 : PCell (w1.alloc (.cells #[.int .u64 (x.c : Int), .int .i64 x.t] 93)).drew q y := (Below.heap_alloc _ _ _ (lt_of_heap h1)).trans h1
            exact pcell_grown gg2 (fun q cs f e => by cases e; exact not93_map (((gout.own.kept gg1 (by simp)).alloc (.cells #[.int .u64 (x.c : Int), .int .i64 x.t] 93)).drew) cs f) h2
          have hrg2 := (ranges_drew (grg1.alloc (.cells #[.int .u64 (x.c : Int), .int .i64 x.t] 93))).kept (w' := w2) gg2 (fun e => by have := Option.some.inj e; omega) (fun e => by have := Option.some.inj e; omega)
          have hnew : PCell w2 wr.heap.size x := by
            refine (gg2.block _ (by rw [hsz2]; omega) (fun e => by have := Option.some.inj e; omega)).trans ?_
            rw [← hs1]
            exact boxed_cell w1 _ _
          have hsrc := HREL.out.src.move (((HREL.out.src.own.kept gg1 (fun e => by have := Option.some.inj e; omega)).alloc (.cells #[.int .u64 (x.c : Int), .int .i64 x.t] 93)).drew.kept gg2 (fun e => by have := Option.some.inj e; omega)) hmove
          have hput := gout.put gown2 hmove hnew (come_step HU.out.1.up gx glx) (come_new glx)
          have hF := (show CpRel W b n D k.waits (fun z => left z && !z.sameKey (key x.s)) cnt1 w2 from
            ⟨hrg2, by omega, ⟨_, hput.own.mono (by omega), hput.at_, hput.only⟩, hsrc, fun kl h => HREL.out.has kl (by simp at h; exact h.1),
             ((Below.drew ((hbl.grown gg1 hbl.size (fun j hj => by cases hj; omega)).alloc (by omega) _)).grown gg2 (by rw [hsz2]; omega) (fun j hj => by cases hj; exact Nat.le_refl _))⟩)
          have hm1 := hrg2.left_eq
          have hm0 := HREL.out.rg.left_eq
          have hKw : KeptAt w2 S k (.map (some b)) rv := (hF.bl.block _ (lt_of_heap HW.out.2.2)).trans HW.out.2.2
          have y1 := hKw.c1
          have y3 := hKw.c3
          have hxw := HU.out.1.w x gx
          have j1 : decide (x.s ≤ k.fs) = false := by simp; omega
          have j2 : decide (k.ds < x.s) = false := by simp; omega
          have HF := Lib.hid hF
          have HGL := Lib.hid glt
          clear hput hsrc hnew hmove gout gown2 gg2 gg1 gpc1 hrg2 grg1 hF hKw hxw gx glx glt hrun k0 k1
          go_wp2_with fail
          exact ⟨⟨_, cnt1, HF⟩, by rw [hm1, hm0]; exact HGL.out⟩
end Go.Proofs.YtchphfdoneckeaaDoor
