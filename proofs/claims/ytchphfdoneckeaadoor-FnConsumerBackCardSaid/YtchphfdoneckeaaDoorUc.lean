/-
  UpdateAcks: the message next to the floor.
-/
import Derived.Test.YtchphfdoneckeaaDoorUb
namespace Go.Proofs.YtchphfdoneckeaaDoor
open Go.RowKit Go.MuLone
open Cs (Wt Kp)

set_option maxHeartbeats 4000000 in
set_option maxRecDepth 100000 in
theorem ack_next (m n b : Nat) (D : DataW Unit) (k : Kp) (x : Wt) (w : World) (hR : Row w m 0 k (.map (some b)) (.map none) 2) (hP : PMap w b n D k.waits) (hk : Cs.Sound k) (hx : x ∈ k.waits) (hs64 : x.s < 18446744073709551616) (hl : Cs.without k.waits x.s ≠ []) (hc : x.c = k.fc + 1) (hdc : k.dc < 18446744073709551615) (hds : k.ds < 18446744073709551615) :
    Calls Tryd.prog 25 #[.pointer (some ⟨m, 0, none⟩), .int .u64 (x.c : Int), .int .u64 (x.s : Int)] w (UaPost m n (Cs.ackd k x.c x.s) (.map (some b)) .nilIface w) := by
  have hlf := lock_free muLib ⟨m, 0, none⟩ w hR.c0 (hR.fz 0)
  have HR := Lib.hid hR
  have hP1 : PMap (w.setCell ⟨m, 0, none⟩ (.int .i32 1)) b n D k.waits := hP.but ((But.refl (fun j => j = m) w).setCell ⟨m, 0, none⟩ (.int .i32 1) (fun _ => rfl)) (hP.ne hR) (fun p cs f e => by subst e; exact hR.not93 cs f)
  have HP1 := Lib.hid hP1
  have hxw := hk.w x hx
  have t1 : (k.fc : Int) < (x.c : Int) := by omega
  obtain ⟨f1, hf1⟩ : ∃ f1 : Nat, f1 = k.fc + 1 := ⟨_, rfl⟩
  have hw1 : IntKind.u64.wrap ((k.fc : Int) + 1) = (f1 : Int) := by rw [IntKind.wrap_u64, hf1]; omega
  have t2 : (x.c : Int) = (f1 : Int) := by omega
  obtain ⟨q, hq, hq1, hq2, hq3, hq4, hq5, hq6⟩ := next_first hk hx hc hl
  have t5 : (x.c : Int) < (k.dc : Int) := by omega
  obtain ⟨s1, hs1⟩ : ∃ s1 : Nat, s1 = x.s + 1 := ⟨_, rfl⟩
  have hw2 : IntKind.u64.wrap ((x.s : Int) + 1) = (s1 : Int) := by rw [IntKind.wrap_u64, hs1]; omega
  have HS1 := Lib.hid hs1
  have HDS := Lib.hid hds
  have HDC := Lib.hid hdc
  have HQ := Lib.hid (And.intro hq (And.intro hq1 (And.intro hq2 (And.intro hq3 (And.intro hq5 hq6)))))
  have HF1 := Lib.hid hf1
  have hdn := drop_nil80 x.s hs64
  have hkey := key_of hs64
  have hbm := hP.ne hR
  have hzp : (0 : Int) < (Maps.size D : Int) := by
    have h := mt hP.size_pos.1 (fun e => by rw [e] at hx; cases hx)
    omega
  obtain ⟨p, hpc, hlk1, hlk2⟩ := look_hit hP1 hx hs64
  have HK := Lib.hid (And.intro hk (And.intro hx (And.intro hl (And.intro hpc hc))))
  have HLK := Lib.hid (And.intro hlk1 hlk2)
  have k0 : (w.setCell ⟨m, 0, none⟩ (.int .i32 1)).cell? ⟨p, 0, none⟩ = some (.int .u64 (x.c : Int)) := cell_of hpc rfl
  have hk0 := Lib.hid k0
  clear hR hP hP1 hk hx hl hpc hlk1 hlk2 hxw k0 hc hf1 hdc hds hs1 hq hq1 hq2 hq3 hq4 hq5 hq6
  go_enter_defers Tryd.func25, Tryd.ntmps25
  go_wp2_with (first | (go_at_call 36; refine hlf.mono ?_; rintro e w1 ⟨rfl, hw1⟩; have HW1 := Lib.hid hw1; clear hw1; have hR1 := HR.out.lock 1; have HP2 := HP1.out; have hlk := HLK.out; have hq0 := hk0.out; rw [← HW1.out] at hR1 HP2 hlk hq0; obtain ⟨hlk1, hlk2⟩ := hlk; have hln := fun ty => HP2.own.len Tryd.underlying79 ty; have HPP := Lib.hid HP2; clear HP2; have c2 := hR1.c2; have c6 := hR1.c6; have c8 := hR1.c8; have c9 := hR1.c9; have HR1 := Lib.hid hR1; clear hR1) | (at_delete; refine wpList_delete_own _ rfl _ _ 79 25 rfl 91 K25 Tryd.underlying79 PtrE b n D rfl HPP.out.own _ _ rfl hkey ?_; intro w2 hown2 ht2; obtain ⟨hR2, hP2, hm2, hg2⟩ := turned_row x.s HR1.out HPP.out hown2 ht2; have hpc1 := HK.out.2.2.2.1; rw [← HW1.out] at hpc1; have q2 : w2.cell? ⟨p, 0, none⟩ = some (.int .u64 (x.c : Int)) := cell_of (hm2 _ _ hpc1) rfl; have hln2 := fun ty => hown2.len Tryd.underlying79 ty; have hz2 : (0 : Int) < (Maps.size (D.del (key x.s)) : Int) := by { have h := mt hP2.size_pos.1 HK.out.2.2.1; omega }; have d4 := hR2.c4; have d5 := hR2.c5; have d6 := hR2.c6; have d7 := hR2.c7; have d8 := hR2.c8; have f6 := hR2.fz 6; have f7 := hR2.fz 7; have H2 := Lib.hid (And.intro hR2 (And.intro hP2 hg2)); clear hR2 hP2 hm2 hg2 hown2 ht2 hpc1) | go_in)
  have hxf : f1 = x.c := by have := HF1.out; have := HK.out.2.2.2.2; omega
  obtain ⟨W, hW⟩ : ∃ W, W = (w2.setCell ⟨m, 6, none⟩ (.int .u64 (f1 : Int))).setCell ⟨m, 7, none⟩ (.int .u64 (x.s : Int)) := ⟨_, rfl⟩
  rw [← hW]
  have hb2 : But (fun j => j = m ∨ Value.map (some b) = .map (some j)) w w2 := (locked HW1.out).grown H2.out.2.2 (fun j hj _ => by cases hj; exact Or.inr rfl)
  have hbW : But (fun j => j = m ∨ Value.map (some b) = .map (some j)) w W := by rw [hW]; exact (hb2.setCell _ _ (fun _ => Or.inl rfl)).setCell _ _ (fun _ => Or.inl rfl)
  have hRW : Row W m 1 { k with fc := f1, fs := x.s } (.map (some b)) (.map none) 2 := by rw [hW]; exact (H2.out.1.setFc f1).setFs x.s
  have hPW : PMap W b n (D.del (key x.s)) (Cs.without k.waits x.s) := by
    rw [hW]
    exact H2.out.2.1.but (((But.refl (fun j => j = m) w2).setCell _ _ (fun _ => rfl)).setCell _ _ (fun _ => rfl)) hbm (fun p cs f e => by subst e; exact H2.out.1.not93 cs f)
  have g5 := hRW.c5
  have g8 := hRW.c8
  have g6 := hRW.c6
  have g7 := hRW.c7
  have gf6 := hRW.fz 6
  have gf7 := hRW.fz 7
  have HWW := Lib.hid (And.intro hbW (And.intro hRW hPW))
  clear hW hb2 hbW hRW hPW d4 d5 d6 d7 d8 f6 f7 q2 hln2 hz2 c2 c6 c8 c9 hln hlk1 hlk2 hq0 t5 hw1 t2 t1 hlf hxf
  go_loopw [12, 13, 14] (fun i _ _ wr => wr = W ∧ ∃ j : Nat, i = .int .u64 (j : Int) ∧ x.s < j ∧ j ≤ q.s) (fun i _ _ _ => q.s + 1 - (intOf i).toNat)
  case atStart =>
    refine ⟨rfl, s1, rfl, ?_, ?_⟩
    · have := HS1.out; omega
    · have := HS1.out; have := HQ.out.2.1; omega
  case round =>
    obtain ⟨rfl, j, rfl, hj1, hj2⟩ := hrel
    have hqd := HQ.out.2.2.2.2.1
    have hds := HDS.out
    have r1 : (j : Int) ≤ (k.ds : Int) := by omega
    by_cases hjq : j = q.s
    · subst hjq
      obtain ⟨p2, hp2, hl1, _⟩ := look_hit HWW.out.2.2 HQ.out.1 (by omega)
      have k2 : wr.cell? ⟨p2, 0, none⟩ = some (.int .u64 (q.c : Int)) := cell_of hp2 rfl
      have hpm : p2 ≠ m := fun e => by subst e; exact HWW.out.2.1.not93 _ _ hp2
      have k2' : ∀ v, (wr.setCell ⟨m, 6, none⟩ v).cell? ⟨p2, 0, none⟩ = some (.int .u64 (q.c : Int)) := fun v => (World.cell?_setCell_other _ _ _ _ (by intro e; injection e with e; exact hpm e.symm)).trans k2
      have hqc := HQ.out.2.2.1
      have hqw := (HK.out.1.w q (Cs.without_mem.1 HQ.out.1).1)
      have r2 : (0 : Int) < (q.c : Int) := by omega
      obtain ⟨q1, hq1⟩ : ∃ q1 : Nat, q1 = q.c - 1 := ⟨_, rfl⟩
      obtain ⟨q2, hq2⟩ : ∃ q2 : Nat, q2 = q.s - 1 := ⟨_, rfl⟩
      have hv1 : IntKind.u64.wrap ((q.c : Int) - 1) = (q1 : Int) := by rw [IntKind.wrap_u64, hq1]; have := HDC.out; omega
      have hv2 : IntKind.u64.wrap ((q.s : Int) - 1) = (q2 : Int) := by rw [IntKind.wrap_u64, hq2]; omega
      have HQQ := Lib.hid (And.intro hq1 hq2)
      clear hqd hds hp2 hqc hqw hq1 hq2 hj1 hj2
      go_wp2_with fail
      refine leaves_cons (f := 37) (args := #[.pointer (some ⟨m, 0, none⟩)]) (by simp) (by simp [go_sem]) ?_
      have hR3 := (HWW.out.2.1.setFc q1).setFs q2
      have hb3 := (HWW.out.1.setCell ⟨m, 6, none⟩ (.int .u64 (q1 : Int)) (fun _ => Or.inl rfl)).setCell ⟨m, 7, none⟩ (.int .u64 (q2 : Int)) (fun _ => Or.inl rfl)
      have hP3 := HWW.out.2.2.but (((But.refl (fun j => j = m) wr).setCell ⟨m, 6, none⟩ (.int .u64 (q1 : Int)) (fun _ => rfl)).setCell ⟨m, 7, none⟩ (.int .u64 (q2 : Int)) (fun _ => rfl)) hbm (fun p cs f e => by subst e; exact HWW.out.2.1.not93 cs f)
      refine (unlock_deferred muLib ⟨m, 0, none⟩ .returning _ hR3.c0 (hR3.fz 0)).mono ?_
      rintro e u' w'' ⟨rfl, rfl, rfl⟩
      refine ⟨_, results_tmp rfl _ _ _, ?_⟩
      rw [HQ.out.2.2.2.2.2]
      rw [HQQ.out.1, HQQ.out.2] at hR3 hb3 hP3 ⊢
      exact ua_end hb3 hR3 (Or.inr ⟨b, _, rfl, hP3⟩)
    · have hms := (look_miss HWW.out.2.2 (s := j) (fun y hy e => by have := HQ.out.2.2.2.1 y hy; omega) (by omega)).1
      obtain ⟨j1, hj3⟩ : ∃ j1 : Nat, j1 = j + 1 := ⟨_, rfl⟩
      have hv1 : IntKind.u64.wrap ((j : Int) + 1) = (j1 : Int) := by rw [IntKind.wrap_u64, hj3]; omega
      have HJ := Lib.hid (And.intro hj1 (And.intro hj2 (And.intro hjq hj3)))
      clear hj1 hj2 hjq hj3 hqd hds
      go_wp2_with fail
      obtain ⟨hj1, hj2, hjq, hj3⟩ := HJ.out
      go_roundw
      case rel => exact ⟨trivial, j1, by go_num, by omega, by omega⟩
      case measure => simp [intOf]; omega
theorem ack_any (m n : Nat) (pv : Value) (k : Kp) (x : Wt) (w : World) (hR : Row w m 0 k pv (.map none) 2) (hP : Pend w pv n k.waits) (hk : Cs.Sound k) (hx : x ∈ k.waits) (hdc : k.dc < 18446744073709551615) (hds : k.ds < 18446744073709551615) :
    Calls Tryd.prog 25 #[.pointer (some ⟨m, 0, none⟩), .int .u64 (x.c : Int), .int .u64 (x.s : Int)] w (UaPost m n (Cs.ackd k x.c x.s) pv .nilIface w) := by
  have hxw := hk.w x hx
  have hfc := hk.fc
  rcases hP with ⟨rfl, h2⟩ | ⟨b, D, rfl, hp⟩
  · rw [h2] at hx
    cases hx
  · by_cases hl : Cs.without k.waits x.s = []
    · exact ack_last m n b D k x w hR hp hk hx (by omega) hl
    · by_cases hc : x.c = k.fc + 1
      · exact ack_next m n b D k x w hR hp hk hx (by omega) hl hc hdc hds
      · exact ack_mid m n b D k x w hR hp hk hx (by omega) hl hc (by omega)
end Go.Proofs.YtchphfdoneckeaaDoor
