/-
  UpdateDelivered: a new message.
-/
import Derived.Test.YtchphfdoneckeaaDoorSt
import Derived.WalkSpells
namespace Go.Proofs.YtchphfdoneckeaaDoor
open Go.RowKit Go.MuLone
open Cs (Wt Kp)

def UdPost (m n : Nat) (k' : Kp) (pv : Value) (ack : Int) (w : World) (e : Ending) (w' : World) : Prop :=
  e = .returned .nilIface ∧ ∃ pv', Row w' m 0 k' pv' (.map none) ack ∧ Pend w' pv' n k'.waits ∧ But (fun j => j = m ∨ pv = .map (some j)) w w' ∧ ∀ b, pv' = .map (some b) → pv = .map (some b) ∨ w.heap.size ≤ b

theorem dlv_mem (k : Kp) (c s : Nat) (t : Int) (y : Wt) : y ∈ (Cs.dlv k c s t).waits ↔ y ∈ k.waits ∨ y = ⟨s, c, t⟩ := by simp [Cs.dlv]
theorem ud_end {w W w2 : World} {m n b c s : Nat} {t : Int} {D : DataW Unit} {k : Kp} {pv : Value} (hbW : But (fun j => j = m ∨ pv = .map (some j)) w W) (hRW : Row W m 1 k (.map (some b)) (.map none) 2) (hPW : PMap W b n D k.waits)
    (hown2 : w2.ownsMap Tryd.prog 25 PtrE b (n + 1) (D.put (key s) (.lit (.int .u64 (W.heap.size : Int))))) (hg2 : (W.alloc (.cells #[.int .u64 (c : Int), .int .i64 t] 93)).grownBy w2 (some b))
    (hk : Cs.Sound k) (hs : k.ds < s) (hbS : b < w.heap.size → pv = .map (some b)) (hnew : pv = .map (some b) ∨ w.heap.size ≤ b) :
    UdPost m (n + 1) (Cs.dlv k c s t) pv 2 w (.returned .nilIface) (((w2.setCell ⟨m, 4, none⟩ (.int .u64 (c : Int))).setCell ⟨m, 5, none⟩ (.int .u64 (s : Int))).setCell ⟨m, 0, none⟩ (.int .i32 0)) := by
  have hbm : b ≠ m := hPW.ne hRW
  have hlt := hRW.lt
  have hbl := hPW.own.lt
  have hsz : (W.alloc (.cells #[.int .u64 (c : Int), .int .i64 t] 93)).heap.size = W.heap.size + 1 := by simp
  have hR2 : Row w2 m 1 k (.map (some b)) (.map none) 2 := Row.at (Row.at hRW (Below.heap_alloc _ _ _ hlt)) (hg2.block m (by omega) (fun e => hbm (Option.some.inj e).symm))
  have hmove : ∀ q y, PCell W q y → PCell w2 q y := fun q y hq => by
    have h2 : PCell (W.alloc (.cells #[.int .u64 (c : Int), .int .i64 t] 93)) q y := (Below.heap_alloc _ _ _ (lt_of_heap hq)).trans hq
    exact pcell_grown hg2 (fun q cs f e => by cases e; exact not93_map (hPW.own.alloc (.cells #[.int .u64 (c : Int), .int .i64 t] 93)) cs f) h2
  have hx : PCell w2 W.heap.size ⟨s, c, t⟩ := (hg2.block _ (by omega) (fun e => by have := Option.some.inj e; omega)).trans (boxed_cell W _ _)
  have hP2 := hPW.put (x := ⟨s, c, t⟩) hown2 hmove hx (dlv_mem k c s t) (fun y hy => by have := hk.w y hy; simp only; omega)
  have hb3 : But (fun j => j = m) w2 (((w2.setCell ⟨m, 4, none⟩ (.int .u64 (c : Int))).setCell ⟨m, 5, none⟩ (.int .u64 (s : Int))).setCell ⟨m, 0, none⟩ (.int .i32 0)) :=
    (((But.refl (fun j => j = m) w2).setCell ⟨m, 4, none⟩ (.int .u64 (c : Int)) (fun _ => rfl)).setCell ⟨m, 5, none⟩ (.int .u64 (s : Int)) (fun _ => rfl)).setCell ⟨m, 0, none⟩ (.int .i32 0) (fun _ => rfl)
  refine ⟨rfl, .map (some b), ((hR2.setDc c).setDs s).lock 0, Or.inr ⟨b, _, rfl, hP2.but hb3 hbm (fun p cs f e => by subst e; exact hR2.not93 cs f)⟩, ?_, fun b' h => by cases h; exact hnew⟩
  exact (((hbW.alloc _).grown hg2 (fun j hj hjl => by cases hj; exact Or.inr (hbS hjl)))).then hb3 (fun j _ h => Or.inl h)

set_option maxRecDepth 100000 in
theorem deliver_some (m n b c s : Nat) (t : Int) (D : DataW Unit) (k : Kp) (w : World) (hR : Row w m 0 k (.map (some b)) (.map none) 2) (hP : PMap w b n D k.waits) (hn : n ≤ 1000000) (hk : Cs.Sound k) (hc : k.dc < c) (hs : k.ds < s) (hs64 : s < 18446744073709551616) :
    Calls Tryd.prog 24 #[.pointer (some ⟨m, 0, none⟩), .int .u64 (c : Int), .int .u64 (s : Int), .int .u64 1, .int .i64 t] w (UdPost m (n + 1) (Cs.dlv k c s t) (.map (some b)) 2 w) := by
  have hlf := lock_free muLib ⟨m, 0, none⟩ w hR.c0 (hR.fz 0)
  have HR := Lib.hid hR
  have hP1 : PMap (w.setCell ⟨m, 0, none⟩ (.int .i32 1)) b n D k.waits := hP.but ((But.refl (fun j => j = m) w).setCell ⟨m, 0, none⟩ (.int .i32 1) (fun _ => rfl)) (hP.ne hR) (fun p cs f e => by subst e; exact hR.not93 cs f)
  have HP1 := Lib.hid hP1
  have hbm := hP.ne hR
  have hfc := hk.fc
  have t1 : (k.fc : Int) < (c : Int) := by omega
  have t2 : (k.dc : Int) < (c : Int) := by omega
  have t3 : (k.ds : Int) < (s : Int) := by omega
  have hkey := key_of hs64
  have hnl : ∀ (w : World) (r : Option Nat), (binOp .eql 79 (.map r) (.map none)).run Tryd.prog w = .ok (.bool r.isNone) w := fun w r => run_eql_map_nil w _ _ _ r Tryd.underlying79
  have HK := Lib.hid (And.intro hk (And.intro hc hs))
  clear hR hP hP1 hk hfc hc hs
  go_enter_defers Tryd.func24, Tryd.ntmps24
  go_wp2_with (first | (go_at_call 36; refine hlf.mono ?_; rintro e w1 ⟨rfl, hw1⟩; have HW1 := Lib.hid hw1; clear hw1; have hR1 := HR.out.lock 1; have HP2 := HP1.out; rw [← HW1.out] at hR1 HP2; have c2 := hR1.c2; have c4 := hR1.c4; have c5 := hR1.c5; have c6 := hR1.c6; have c8 := hR1.c8; have c8' := past hR1.c8; have HR1 := Lib.hid hR1; have HPP := Lib.hid HP2; clear hR1 HP2) | (at_mapUpdate; refine wpList_mapUpdate_own _ rfl _ _ _ 79 rfl 25 91 K25 Tryd.underlying79 PtrE b n D rfl (HPP.out.own.alloc _) (by unfold maxLen; omega) _ _ (key s) rfl rfl hkey (.lit (.int .u64 (w1.heap.size : Int))) [] rfl ?_; intro w2 hown2 hg2; have hR2 : Row w2 m 1 k (.map (some b)) (.map none) 2 := Row.at (Row.at HR1.out (Below.heap_alloc _ _ _ HR1.out.lt)) (hg2.block m (by have := HR1.out.lt; simp; omega) (fun e => hbm (Option.some.inj e).symm)); have d4 := hR2.c4; have d5 := hR2.c5; have f4 := hR2.fz 4; have f5 := hR2.fz 5; have HR2 := Lib.hid hR2; have HO2 := Lib.hid (And.intro hown2 hg2); clear hR2 hown2 hg2) | go_in)
  refine leaves_cons (f := 37) (args := #[.pointer (some ⟨m, 0, none⟩)]) (by simp) (by simp [go_sem]) ?_
  have hR3 := ((HR2.out.setDc c).setDs s)
  refine (unlock_deferred muLib ⟨m, 0, none⟩ .returning _ hR3.c0 (hR3.fz 0)).mono ?_
  rintro e u' w'' ⟨rfl, rfl, rfl⟩
  have hb1 : But (fun j => j = m ∨ Value.map (some b) = .map (some j)) w w1 := by rw [HW1.out]; exact (But.refl _ w).setCell _ _ (fun _ => Or.inl rfl)
  refine ⟨_, results_tmp rfl _ _ _, ?_⟩
  exact ud_end hb1 HR1.out HPP.out HO2.out.1 HO2.out.2 HK.out.1 HK.out.2.2 (fun _ => rfl) (Or.inl rfl)

theorem made_row {w1 : World} {m : Nat} {k : Kp} {pv rv : Value} {ack : Int} (n : Nat) (h : Row w1 m 1 k pv rv ack) :
    (((w1.alloc (.map #[] 0)).setCell ⟨m, 8, none⟩ (.map (some w1.heap.size))).ownsMap Tryd.prog 25 PtrE w1.heap.size n (.map []) ∧ Row ((w1.alloc (.map #[] 0)).setCell ⟨m, 8, none⟩ (.map (some w1.heap.size))) m 1 k (.map (some w1.heap.size)) rv ack) ∧
      ((w1.alloc (.map #[] 0)).setCell ⟨m, 8, none⟩ (.map (some w1.heap.size))).heap.size = w1.heap.size + 1 := by
  have hlt := h.lt
  refine ⟨⟨((World.ownsMap_made w1 Tryd.prog 25 PtrE).setCell (a := ⟨m, 8, none⟩) (fun e => ?_) _).mono (Nat.zero_le _), (h.at (Below.heap_alloc _ _ _ hlt)).setP _⟩, by simp⟩
  have : w1.heap.size = m := e
  omega

set_option maxRecDepth 100000 in
theorem deliver_none (m n c s : Nat) (t : Int) (k : Kp) (w : World) (hR : Row w m 0 k (.map none) (.map none) 2) (hw0 : k.waits = []) (hn : n ≤ 1000000) (hk : Cs.Sound k) (hc : k.dc < c) (hs : k.ds < s) (hs64 : s < 18446744073709551616) :
    Calls Tryd.prog 24 #[.pointer (some ⟨m, 0, none⟩), .int .u64 (c : Int), .int .u64 (s : Int), .int .u64 1, .int .i64 t] w (UdPost m (n + 1) (Cs.dlv k c s t) (.map none) 2 w) := by
  have hlf := lock_free muLib ⟨m, 0, none⟩ w hR.c0 (hR.fz 0)
  have HR := Lib.hid hR
  have hfc := hk.fc
  have t1 : (k.fc : Int) < (c : Int) := by omega
  have t2 : (k.dc : Int) < (c : Int) := by omega
  have t3 : (k.ds : Int) < (s : Int) := by omega
  have hkey := key_of hs64
  have hnl : ∀ (w : World) (r : Option Nat), (binOp .eql 79 (.map r) (.map none)).run Tryd.prog w = .ok (.bool r.isNone) w := fun w r => run_eql_map_nil w _ _ _ r Tryd.underlying79
  have HK := Lib.hid (And.intro hk (And.intro hc (And.intro hs hw0)))
  have hmm := @run_makeMap Tryd.prog
  clear hR hk hfc hc hs hw0
  go_enter_defers Tryd.func24, Tryd.ntmps24
  go_wp2_with (first | (go_at_call 36; refine hlf.mono ?_; rintro e w1 ⟨rfl, hw1⟩; have HW1 := Lib.hid hw1; clear hw1; have hR1 := HR.out.lock 1; rw [← HW1.out] at hR1; have c2 := hR1.c2; have c4 := past hR1.c4; have c5 := past hR1.c5; have c6 := hR1.c6; have c8 := hR1.c8; have c8' := past hR1.c8; have f8 : ∀ o, (w1.alloc o).frozen? ⟨m, 8, none⟩ = false := fun o => (hR1.at (Below.heap_alloc _ o _ hR1.lt)).fz 8; have HR1 := Lib.hid hR1; have HM := Lib.hid (made_row n HR1.out).1; have HSM := Lib.hid (made_row n HR1.out).2; clear hR1) | (at_mapUpdate; refine wpList_mapUpdate_own _ rfl _ _ _ 79 rfl 25 91 K25 Tryd.underlying79 PtrE w1.heap.size n (.map []) rfl (HM.out.1.alloc _) (by unfold maxLen; omega) _ _ (key s) rfl rfl hkey (.lit (.int .u64 ((w1.heap.size + 1 : Nat) : Int))) [] (by simp; rfl) ?_; intro w2 hown2 hg2; have hR2 : Row w2 m 1 k (.map (some w1.heap.size)) (.map none) 2 := Row.at (Row.at HM.out.2 (Below.heap_alloc _ _ _ HM.out.2.lt)) (hg2.block m (by have := HM.out.2.lt; simp at this ⊢; omega) (fun e => by have := HR1.out.lt; have := Option.some.inj e; omega)); have d4 := hR2.c4; have d5 := hR2.c5; have f4 := hR2.fz 4; have f5 := hR2.fz 5; have HR2 := Lib.hid hR2; have HO2 := Lib.hid (And.intro hown2 hg2); clear hR2 hown2 hg2) | go_in)
  refine leaves_cons (f := 37) (args := #[.pointer (some ⟨m, 0, none⟩)]) (by simp) (by simp [go_sem]) ?_
  have hR3 := ((HR2.out.setDc c).setDs s)
  refine (unlock_deferred muLib ⟨m, 0, none⟩ .returning _ hR3.c0 (hR3.fz 0)).mono ?_
  rintro e u' w'' ⟨rfl, rfl, rfl⟩
  have hb1 : But (fun j => j = m ∨ Value.map none = .map (some j)) w w1 := by rw [HW1.out]; exact (But.refl _ w).setCell _ _ (fun _ => Or.inl rfl)
  have hbW := (hb1.alloc (.map #[] 0)).setCell ⟨m, 8, none⟩ (.map (some w1.heap.size)) (fun _ => Or.inl rfl)
  have hPW := PMap.empty HM.out.1
  rw [← HK.out.2.2.2] at hPW
  have ho2 := HO2.out.1
  rw [← HSM.out] at ho2
  refine ⟨_, results_tmp rfl _ _ _, ?_⟩
  exact ud_end hbW HM.out.2 hPW ho2 HO2.out.2 HK.out.1 HK.out.2.2.1 (fun h => by have := hb1.size; omega) (Or.inr hb1.size)

theorem deliver_any (m n c s : Nat) (t : Int) (pv : Value) (k : Kp) (w : World) (hR : Row w m 0 k pv (.map none) 2) (hP : Pend w pv n k.waits) (hn : n ≤ 1000000) (hk : Cs.Sound k) (hc : k.dc < c) (hs : k.ds < s) (hs64 : s < 18446744073709551616) :
    Calls Tryd.prog 24 #[.pointer (some ⟨m, 0, none⟩), .int .u64 (c : Int), .int .u64 (s : Int), .int .u64 1, .int .i64 t] w (UdPost m (n + 1) (Cs.dlv k c s t) pv 2 w) := by
  rcases hP with ⟨rfl, h2⟩ | ⟨b, D, rfl, hp⟩
  · exact deliver_none m n c s t k w hR h2 hn hk hc hs hs64
  · exact deliver_some m n b c s t D k w hR hp hn hk hc hs hs64
end Go.Proofs.YtchphfdoneckeaaDoor
