/-
  UpdateAcks: a message that waits.
-/
import Derived.Test.YtchphfdoneckeaaDoorUa
namespace Go.Proofs.YtchphfdoneckeaaDoor
open Go.RowKit Go.MuLone
open Cs (Wt Kp)

theorem without_after {k : Kp} (h : Cs.Sound k) {x : Wt} (hx : x ∈ k.waits) (hc : x.c = k.fc + 1) : ∀ y ∈ Cs.without k.waits x.s, x.c < y.c ∧ x.s < y.s := fun y hy => by
  obtain ⟨hy1, hy2⟩ := Cs.without_mem.1 hy
  have h1 := h.w y hy1
  have h2 : y.c ≠ x.c := fun e => by
    have m1 := (Cs.up_mono h.up hx hy1).2
    have m2 := (Cs.up_mono h.up hy1 hx).2
    rcases Nat.lt_or_gt_of_ne hy2 with h3 | h3
    · have := m2 h3; omega
    · have := m1 h3; omega
  have h3 : x.c < y.c := by omega
  exact ⟨h3, (Cs.up_mono h.up hx hy1).1 h3⟩
theorem next_first {k : Kp} (h : Cs.Sound k) {x : Wt} (hx : x ∈ k.waits) (hc : x.c = k.fc + 1) (hne : Cs.without k.waits x.s ≠ []) :
    ∃ p ∈ Cs.without k.waits x.s, x.s < p.s ∧ x.c < p.c ∧ (∀ z ∈ Cs.without k.waits x.s, p.s ≤ z.s) ∧ x.c < k.dc ∧ p.s ≤ k.ds ∧ Cs.ackd k x.c x.s = { k with waits := Cs.without k.waits x.s, fc := p.c - 1, fs := p.s - 1 } := by
  have ha := without_after h hx hc
  have hup := Cs.up_sub (l' := Cs.without k.waits x.s) List.filter_sublist h.up
  have hm : ∀ z ∈ Cs.without k.waits x.s, z ∈ k.waits := fun z hz => (Cs.without_mem.1 hz).1
  unfold Cs.ackd
  rw [if_neg hne, if_pos hc]
  unfold Cs.nextFloor
  generalize Cs.without k.waits x.s = l at *
  cases l with
  | nil => exact absurd rfl hne
  | cons p l =>
    obtain ⟨h1, h2⟩ := List.pairwise_cons.1 hup
    have hp := ha p (by simp)
    have hw := h.w p (hm p (by simp))
    refine ⟨p, by simp, hp.2, hp.1, fun z hz => ?_, by omega, by omega, ?_⟩
    · rcases List.mem_cons.1 hz with rfl | hz
      · exact Nat.le_refl _
      · have := h1 z hz; omega
    · rw [if_pos (by omega)]
      have : (List.find? (fun x' : Wt => decide (x.s < x'.s)) (p :: l)) = some p := by simp [hp.2]
      rw [this]

theorem turned_row {w1 w2 : World} {m b n : Nat} {k : Kp} {D : DataW Unit} {lk ack : Int} {pv rv : Value} {l : List Wt} (s : Nat) (hR : Row w1 m lk k pv rv ack) (hP : PMap w1 b n D l) (ho : w2.ownsMap Tryd.prog 25 PtrE b n (D.del (key s))) (ht : w1.mapTurned w2 b) :
    Row w2 m lk k pv rv ack ∧ PMap w2 b n (D.del (key s)) (Cs.without l s) ∧ (∀ p x, PCell w1 p x → PCell w2 p x) ∧ w1.grownBy w2 (some b) := by
  have hg := ht.grown
  have hm : ∀ p x, PCell w1 p x → PCell w2 p x := fun p x h => pcell_grown hg (fun q cs f e => by cases e; exact not93_map hP.own cs f) h
  exact ⟨hR.at (hg.block m hR.lt (fun e => hP.ne hR (Option.some.inj e).symm)), hP.del s ho hm, hm, hg⟩
set_option maxRecDepth 100000 in
theorem ack_last (m n b : Nat) (D : DataW Unit) (k : Kp) (x : Wt) (w : World) (hR : Row w m 0 k (.map (some b)) (.map none) 2) (hP : PMap w b n D k.waits) (hk : Cs.Sound k) (hx : x ∈ k.waits) (hs64 : x.s < 18446744073709551616) (hl : Cs.without k.waits x.s = []) :
    Calls Tryd.prog 25 #[.pointer (some ⟨m, 0, none⟩), .int .u64 (x.c : Int), .int .u64 (x.s : Int)] w (UaPost m n (Cs.ackd k x.c x.s) (.map (some b)) .nilIface w) := by
  have hlf := lock_free muLib ⟨m, 0, none⟩ w hR.c0 (hR.fz 0)
  have HR := Lib.hid hR
  have hP1 : PMap (w.setCell ⟨m, 0, none⟩ (.int .i32 1)) b n D k.waits := hP.but ((But.refl (fun j => j = m) w).setCell ⟨m, 0, none⟩ (.int .i32 1) (fun _ => rfl)) (hP.ne hR) (fun p cs f e => by subst e; exact hR.not93 cs f)
  have HP1 := Lib.hid hP1
  have hxw := hk.w x hx
  have t1 : (k.fc : Int) < (x.c : Int) := by omega
  have hdn := drop_nil80 x.s hs64
  have hkey := key_of hs64
  have hbm := hP.ne hR
  have hzp : (0 : Int) < (Maps.size D : Int) := by
    have h := mt hP.size_pos.1 (fun e => by rw [e] at hx; cases hx)
    omega
  obtain ⟨p, hpc, hlk1, hlk2⟩ := look_hit hP1 hx hs64
  have HK := Lib.hid (And.intro hk (And.intro hx (And.intro hl hpc)))
  have HLK := Lib.hid (And.intro hlk1 hlk2)
  have k0 : (w.setCell ⟨m, 0, none⟩ (.int .i32 1)).cell? ⟨p, 0, none⟩ = some (.int .u64 (x.c : Int)) := cell_of hpc rfl
  have hk0 := Lib.hid k0
  clear hR hP hP1 hk hx hl hpc hlk1 hlk2 hxw k0
  go_enter_defers Tryd.func25, Tryd.ntmps25
  go_wp2_with (first | (go_at_call 36; refine hlf.mono ?_; rintro e w1 ⟨rfl, hw1⟩; have HW1 := Lib.hid hw1; clear hw1; have hR1 := HR.out.lock 1; have HP2 := HP1.out; have hlk := HLK.out; have hq0 := hk0.out; rw [← HW1.out] at hR1 HP2 hlk hq0; obtain ⟨hlk1, hlk2⟩ := hlk; have hln := fun ty => HP2.own.len Tryd.underlying79 ty; have HPP := Lib.hid HP2; clear HP2; have c2 := hR1.c2; have c6 := hR1.c6; have c8 := hR1.c8; have c9 := hR1.c9; have HR1 := Lib.hid hR1; clear hR1) | (at_delete; refine wpList_delete_own _ rfl _ _ 79 25 rfl 91 K25 Tryd.underlying79 PtrE b n D rfl HPP.out.own _ _ rfl hkey ?_; intro w2 hown2 ht2; obtain ⟨hR2, hP2, hm2, hg2⟩ := turned_row x.s HR1.out HPP.out hown2 ht2; have hpc1 := HK.out.2.2.2; rw [← HW1.out] at hpc1; have q2 : w2.cell? ⟨p, 0, none⟩ = some (.int .u64 (x.c : Int)) := cell_of (hm2 _ _ hpc1) rfl; have hln2 := fun ty => hown2.len Tryd.underlying79 ty; rw [hP2.size_pos.2 HK.out.2.2.1] at hln2; have d4 := hR2.c4; have d5 := hR2.c5; have d6 := hR2.c6; have d7 := hR2.c7; have d8 := hR2.c8; have f6 := hR2.fz 6; have f7 := hR2.fz 7; have H2 := Lib.hid (And.intro hR2 (And.intro hP2 hg2)); clear hR2 hP2 hm2 hg2 hown2 ht2 hpc1) | go_in)
  refine leaves_cons (f := 37) (args := #[.pointer (some ⟨m, 0, none⟩)]) (by simp) (by simp [go_sem]) ?_
  have hb2 : But (fun j => j = m ∨ Value.map (some b) = .map (some j)) w w2 := (locked HW1.out).grown H2.out.2.2 (fun j hj _ => by cases hj; exact Or.inr rfl)
  have hb3 := (hb2.setCell ⟨m, 6, none⟩ (.int .u64 (k.dc : Int)) (fun _ => Or.inl rfl)).setCell ⟨m, 7, none⟩ (.int .u64 (k.ds : Int)) (fun _ => Or.inl rfl)
  have hR3 := (H2.out.1.setFc k.dc).setFs k.ds
  have hP3 := H2.out.2.1.but (((But.refl (fun j => j = m) w2).setCell ⟨m, 6, none⟩ (.int .u64 (k.dc : Int)) (fun _ => rfl)).setCell ⟨m, 7, none⟩ (.int .u64 (k.ds : Int)) (fun _ => rfl)) hbm (fun p cs f e => by subst e; exact H2.out.1.not93 cs f)
  rw [HK.out.2.2.1] at hP3
  refine (unlock_deferred muLib ⟨m, 0, none⟩ .returning _ hR3.c0 (hR3.fz 0)).mono ?_
  rintro e u' w'' ⟨rfl, rfl, rfl⟩
  refine ⟨_, results_tmp rfl _ _ _, ?_⟩
  rw [Cs.ackd_empty HK.out.2.2.1]
  exact ua_end hb3 hR3 (Or.inr ⟨b, _, rfl, hP3⟩)

set_option maxRecDepth 100000 in
theorem ack_mid (m n b : Nat) (D : DataW Unit) (k : Kp) (x : Wt) (w : World) (hR : Row w m 0 k (.map (some b)) (.map none) 2) (hP : PMap w b n D k.waits) (hk : Cs.Sound k) (hx : x ∈ k.waits) (hs64 : x.s < 18446744073709551616) (hl : Cs.without k.waits x.s ≠ []) (hc : x.c ≠ k.fc + 1) (hfc : k.fc < 18446744073709551615) :
    Calls Tryd.prog 25 #[.pointer (some ⟨m, 0, none⟩), .int .u64 (x.c : Int), .int .u64 (x.s : Int)] w (UaPost m n (Cs.ackd k x.c x.s) (.map (some b)) .nilIface w) := by
  have hlf := lock_free muLib ⟨m, 0, none⟩ w hR.c0 (hR.fz 0)
  have HR := Lib.hid hR
  have hP1 : PMap (w.setCell ⟨m, 0, none⟩ (.int .i32 1)) b n D k.waits := hP.but ((But.refl (fun j => j = m) w).setCell ⟨m, 0, none⟩ (.int .i32 1) (fun _ => rfl)) (hP.ne hR) (fun p cs f e => by subst e; exact hR.not93 cs f)
  have HP1 := Lib.hid hP1
  have hxw := hk.w x hx
  have t1 : (k.fc : Int) < (x.c : Int) := by omega
  obtain ⟨f1, hf1⟩ : ∃ f1 : Nat, f1 = k.fc + 1 := ⟨_, rfl⟩
  have hw1 : IntKind.u64.wrap ((k.fc : Int) + 1) = (f1 : Int) := by rw [IntKind.wrap_u64, hf1]; omega
  have t2 : ¬ ((x.c : Int) = (f1 : Int)) := by omega
  have HF1 := Lib.hid hf1
  have hdn := drop_nil80 x.s hs64
  have hkey := key_of hs64
  have hbm := hP.ne hR
  have hzp : (0 : Int) < (Maps.size D : Int) := by
    have h := mt hP.size_pos.1 (fun e => by rw [e] at hx; cases hx)
    omega
  obtain ⟨p, hpc, hlk1, hlk2⟩ := look_hit hP1 hx hs64
  have HK := Lib.hid (And.intro hk (And.intro hx (And.intro hl (And.intro hpc hc))))
  have HLK := Lib.hid (And.intro hlk1 hlk2)
  have k0 : (w.setCell ⟨m, 0, none⟩ (.int .i32 1)).cell? ⟨p, 0, none⟩ = some (.int .u64 (x.c : Int)) := cell_of hpc rfl
  have hk0 := Lib.hid k0
  clear hR hP hP1 hk hx hl hpc hlk1 hlk2 hxw k0 hc hf1 hfc
  go_enter_defers Tryd.func25, Tryd.ntmps25
  go_wp2_with (first | (go_at_call 36; refine hlf.mono ?_; rintro e w1 ⟨rfl, hw1⟩; have HW1 := Lib.hid hw1; clear hw1; have hR1 := HR.out.lock 1; have HP2 := HP1.out; have hlk := HLK.out; have hq0 := hk0.out; rw [← HW1.out] at hR1 HP2 hlk hq0; obtain ⟨hlk1, hlk2⟩ := hlk; have hln := fun ty => HP2.own.len Tryd.underlying79 ty; have HPP := Lib.hid HP2; clear HP2; have c2 := hR1.c2; have c6 := hR1.c6; have c8 := hR1.c8; have c9 := hR1.c9; have HR1 := Lib.hid hR1; clear hR1) | (at_delete; refine wpList_delete_own _ rfl _ _ 79 25 rfl 91 K25 Tryd.underlying79 PtrE b n D rfl HPP.out.own _ _ rfl hkey ?_; intro w2 hown2 ht2; obtain ⟨hR2, hP2, hm2, hg2⟩ := turned_row x.s HR1.out HPP.out hown2 ht2; have hpc1 := HK.out.2.2.2.1; rw [← HW1.out] at hpc1; have q2 : w2.cell? ⟨p, 0, none⟩ = some (.int .u64 (x.c : Int)) := cell_of (hm2 _ _ hpc1) rfl; have hln2 := fun ty => hown2.len Tryd.underlying79 ty; have hz2 : (0 : Int) < (Maps.size (D.del (key x.s)) : Int) := by { have h := mt hP2.size_pos.1 HK.out.2.2.1; omega }; have d4 := hR2.c4; have d5 := hR2.c5; have d6 := hR2.c6; have d7 := hR2.c7; have d8 := hR2.c8; have f6 := hR2.fz 6; have f7 := hR2.fz 7; have H2 := Lib.hid (And.intro hR2 (And.intro hP2 hg2)); clear hR2 hP2 hm2 hg2 hown2 ht2 hpc1) | go_in)
  refine leaves_cons (f := 37) (args := #[.pointer (some ⟨m, 0, none⟩)]) (by simp) (by simp [go_sem]) ?_
  have hb2 : But (fun j => j = m ∨ Value.map (some b) = .map (some j)) w w2 := (locked HW1.out).grown H2.out.2.2 (fun j hj _ => by cases hj; exact Or.inr rfl)
  refine (unlock_deferred muLib ⟨m, 0, none⟩ .returning _ H2.out.1.c0 (H2.out.1.fz 0)).mono ?_
  rintro e u' w'' ⟨rfl, rfl, rfl⟩
  refine ⟨_, results_tmp rfl _ _ _, ?_⟩
  have e1 : Cs.ackd k x.c x.s = { k with waits := Cs.without k.waits x.s } := by
    unfold Cs.ackd
    rw [if_neg HK.out.2.2.1, if_neg HK.out.2.2.2.2]
  rw [e1]
  exact ua_end hb2 H2.out.1 (Or.inr ⟨b, _, rfl, H2.out.2.1⟩)

end Go.Proofs.YtchphfdoneckeaaDoor
