/-
  UpdateAcks.
-/
import Derived.Test.YtchphfdoneckeaaDoorUd
namespace Go.Proofs.YtchphfdoneckeaaDoor
open Go.RowKit Go.MuLone
open Cs (Wt Kp)

def UaPost (m n : Nat) (k' : Kp) (pv ev : Value) (w : World) (e : Ending) (w' : World) : Prop :=
  e = .returned ev ∧ Row w' m 0 k' pv (.map none) 2 ∧ Pend w' pv n k'.waits ∧ But (fun j => j = m ∨ pv = .map (some j)) w w'

theorem look_hit {w : World} {b n : Nat} {D : DataW Unit} {l : List Wt} (h : PMap w b n D l) {x : Wt} (hx : x ∈ l) (hs : x.s < 18446744073709551616) : ∃ p, PCell w p x ∧
    (Instr.lookup 79 (.map (some b)) (.int .u64 (x.s : Int)) true).run Tryd.prog w = .ok (.tuple #[.pointer (some ⟨p, 0, none⟩), .bool true]) w ∧
    (Instr.lookup 79 (.map (some b)) (.int .u64 (x.s : Int)) false).run Tryd.prog w = .ok (.pointer (some ⟨p, 0, none⟩)) w := by
  obtain ⟨p, h1, h2⟩ := h.at_ x hx
  obtain ⟨v, ps, h3, h4⟩ := h.own.look_ok K25 Tryd.underlying79 (Tryd.zeroValue91 w) (zd := .nil) (zp := []) rfl (key_of hs)
  obtain ⟨v', ps', h5, h6⟩ := h.own.lookup K25 Tryd.underlying79 (Tryd.zeroValue91 w) (zd := .nil) (zp := []) rfl (key_of hs)
  rw [h1] at h4 h6
  rw [ptrE_at h4, h.has_of hx] at h3
  rw [ptrE_at h6] at h5
  exact ⟨p, h2, h3, h5⟩
theorem look_miss {w : World} {b n s : Nat} {D : DataW Unit} {l : List Wt} (h : PMap w b n D l) (hn : ∀ y ∈ l, y.s ≠ s) (hs : s < 18446744073709551616) :
    (Instr.lookup 79 (.map (some b)) (.int .u64 (s : Int)) true).run Tryd.prog w = .ok (.tuple #[.pointer none, .bool false]) w ∧
    (Instr.lookup 79 (.map (some b)) (.int .u64 (s : Int)) false).run Tryd.prog w = .ok (.pointer none) w := by
  have hh : Maps.has D (key s) = false := by
    cases hh : Maps.has D (key s)
    · rfl
    · obtain ⟨y, hy, e⟩ := h.only _ hh
      exact absurd (key_inj e).symm (hn y hy)
  obtain ⟨v, ps, h3, h4⟩ := h.own.look_ok K25 Tryd.underlying79 (Tryd.zeroValue91 w) (zd := .nil) (zp := []) rfl (key_of hs)
  obtain ⟨v', ps', h5, h6⟩ := h.own.lookup K25 Tryd.underlying79 (Tryd.zeroValue91 w) (zd := .nil) (zp := []) rfl (key_of hs)
  rw [Maps.atKey_of_not_has hh] at h4 h6
  rw [ptrE_nil h4, hh] at h3
  rw [ptrE_nil h6] at h5
  exact ⟨h3, h5⟩
theorem drop_nil80 (s : Nat) (hs : s < 18446744073709551616) (w : World) (ty : TypeId) : (Builtin.delete_ #[80, 25] ty #[.map none, .int .u64 (s : Int)]).run Tryd.prog w = .ok (.tuple #[]) w := Maps.drop_nil K25 Tryd.underlying80 (key_of hs) ty

theorem ua_end {w W : World} {m n : Nat} {k : Kp} {pv ev : Value} (hb : But (fun j => j = m ∨ pv = .map (some j)) w W) (hR : Row W m 1 k pv (.map none) 2) (hP : Pend W pv n k.waits) : UaPost m n k pv ev w (.returned ev) (W.setCell ⟨m, 0, none⟩ (.int .i32 0)) := by
  have h0 : But (fun j => j = m) W (W.setCell ⟨m, 0, none⟩ (.int .i32 0)) := (But.refl _ W).setCell _ _ (fun _ => rfl)
  exact ⟨rfl, hR.lock 0, hP.but h0 (far_m hR hP), hb.then h0 (fun j _ h => Or.inl h)⟩
theorem locked {w w1 : World} {m : Nat} {pv : Value} (h : w1 = w.setCell ⟨m, 0, none⟩ (.int .i32 1)) : But (fun j => j = m ∨ pv = .map (some j)) w w1 := by rw [h]; exact (But.refl _ w).setCell _ _ (fun _ => Or.inl rfl)
theorem pend_lock {w w1 : World} {m n : Nat} {k : Kp} {pv : Value} {l : List Wt} (h : w1 = w.setCell ⟨m, 0, none⟩ (.int .i32 1)) (hR : Row w m 0 k pv (.map none) 2) (hP : Pend w pv n l) : Pend w1 pv n l := by
  rw [h]
  exact hP.but ((But.refl (fun j => j = m) w).setCell ⟨m, 0, none⟩ (.int .i32 1) (fun _ => rfl)) (far_m hR hP)

set_option maxRecDepth 100000 in
theorem ack_old (m n c s : Nat) (pv : Value) (k : Kp) (w : World) (hR : Row w m 0 k pv (.map none) 2) (hP : Pend w pv n k.waits) (hc : c ≤ k.fc) (hs64 : s < 18446744073709551616) :
    Calls Tryd.prog 25 #[.pointer (some ⟨m, 0, none⟩), .int .u64 (c : Int), .int .u64 (s : Int)] w (UaPost m n k pv .nilIface w) := by
  have hlf := lock_free muLib ⟨m, 0, none⟩ w hR.c0 (hR.fz 0)
  have HR := Lib.hid hR
  have HP := Lib.hid hP
  have t1 : (c : Int) ≤ (k.fc : Int) := by omega
  have hdn := drop_nil80 s hs64
  clear hR hP hc
  go_enter_defers Tryd.func25, Tryd.ntmps25
  go_wp2_with (first | (go_at_call 36; refine hlf.mono ?_; rintro e w1 ⟨rfl, hw1⟩; have HW1 := Lib.hid hw1; clear hw1; have hR1 := HR.out.lock 1; rw [← HW1.out] at hR1; have c2 := hR1.c2; have c6 := hR1.c6; have c9 := hR1.c9; have HR1 := Lib.hid hR1; clear hR1) | go_in)
  refine leaves_cons (f := 37) (args := #[.pointer (some ⟨m, 0, none⟩)]) (by simp) (by simp [go_sem]) ?_
  refine (unlock_deferred muLib ⟨m, 0, none⟩ .returning _ HR1.out.c0 (HR1.out.fz 0)).mono ?_
  rintro e u' w'' ⟨rfl, rfl, rfl⟩
  refine ⟨_, results_tmp rfl _ _ _, ?_⟩
  exact ua_end (locked HW1.out) HR1.out (pend_lock HW1.out HR.out HP.out)

set_option maxRecDepth 100000 in
theorem ack_miss_none (m n c s : Nat) (te : TypeId) (ve : Value) (k : Kp) (w : World) (hR : Row w m 0 k (.map none) (.map none) 2) (hw0 : k.waits = []) (hc : k.fc < c) (hs64 : s < 18446744073709551616) (hE : w.cell? ⟨1, 0, none⟩ = some (.iface te ve)) :
    Calls Tryd.prog 25 #[.pointer (some ⟨m, 0, none⟩), .int .u64 (c : Int), .int .u64 (s : Int)] w (UaPost m n k (.map none) (.iface te ve) w) := by
  have hlf := lock_free muLib ⟨m, 0, none⟩ w hR.c0 (hR.fz 0)
  have hne : m ≠ 1 := by
    rintro rfl
    have h1 := hR.c0
    rw [hE] at h1
    cases h1
  have HR := Lib.hid hR
  have HW0 := Lib.hid hw0
  have t1 : (k.fc : Int) < (c : Int) := by omega
  have hdn := drop_nil80 s hs64
  have hln := fun (w : World) (ty : TypeId) => Maps.len_nil (w := w) Tryd.underlying79 ty
  have HE := Lib.hid hE
  clear hR hc hE hw0
  go_enter_defers Tryd.func25, Tryd.ntmps25
  go_wp2_with (first | (go_at_call 36; refine hlf.mono ?_; rintro e w1 ⟨rfl, hw1⟩; have HW1 := Lib.hid hw1; clear hw1; have hR1 := HR.out.lock 1; rw [← HW1.out] at hR1; have c2 := hR1.c2; have c6 := hR1.c6; have c8 := hR1.c8; have c9 := hR1.c9; have HR1 := Lib.hid hR1; clear hR1; have e1 : w1.cell? ⟨1, 0, none⟩ = some (.iface te ve) := by { rw [HW1.out, World.cell?_setCell_other _ _ _ _ (by intro e; injection e with e; exact hne e)]; exact HE.out }) | go_in)
  refine leaves_cons (f := 37) (args := #[.pointer (some ⟨m, 0, none⟩)]) (by simp) (by simp [go_sem]) ?_
  refine (unlock_deferred muLib ⟨m, 0, none⟩ .returning _ HR1.out.c0 (HR1.out.fz 0)).mono ?_
  rintro e u' w'' ⟨rfl, rfl, rfl⟩
  refine ⟨_, results_tmp rfl _ _ _, ?_⟩
  exact ua_end (locked HW1.out) HR1.out (Or.inl ⟨rfl, HW0.out⟩)

set_option maxRecDepth 100000 in
theorem ack_miss_some (m n b c s : Nat) (D : DataW Unit) (te : TypeId) (ve : Value) (k : Kp) (w : World) (hR : Row w m 0 k (.map (some b)) (.map none) 2) (hP : PMap w b n D k.waits) (hc : k.fc < c) (hno : ∀ y ∈ k.waits, y.s ≠ s) (hs64 : s < 18446744073709551616) (hE : w.cell? ⟨1, 0, none⟩ = some (.iface te ve)) :
    Calls Tryd.prog 25 #[.pointer (some ⟨m, 0, none⟩), .int .u64 (c : Int), .int .u64 (s : Int)] w (UaPost m n k (.map (some b)) (.iface te ve) w) := by
  have hlf := lock_free muLib ⟨m, 0, none⟩ w hR.c0 (hR.fz 0)
  have hne : m ≠ 1 := by
    rintro rfl
    have h1 := hR.c0
    rw [hE] at h1
    cases h1
  have HR := Lib.hid hR
  have HNO := Lib.hid hno
  have hP1 : PMap (w.setCell ⟨m, 0, none⟩ (.int .i32 1)) b n D k.waits := hP.but ((But.refl (fun j => j = m) w).setCell ⟨m, 0, none⟩ (.int .i32 1) (fun _ => rfl)) (hP.ne hR) (fun p cs f e => by subst e; exact hR.not93 cs f)
  have HP1 := Lib.hid hP1
  have t1 : (k.fc : Int) < (c : Int) := by omega
  have hdn := drop_nil80 s hs64
  have HE := Lib.hid hE
  have HP := Lib.hid hP
  clear hR hc hE hno hP hP1
  obtain ⟨z, hz⟩ : ∃ z, Maps.size D = z := ⟨_, rfl⟩
  go_enter_defers Tryd.func25, Tryd.ntmps25
  by_cases hz0 : z = 0
  · subst hz0
    go_wp2_with (first | (go_at_call 36; refine hlf.mono ?_; rintro e w1 ⟨rfl, hw1⟩; have HW1 := Lib.hid hw1; clear hw1; have hR1 := HR.out.lock 1; have HP2 := HP1.out; rw [← HW1.out] at hR1 HP2; have hln := fun ty => HP2.own.len Tryd.underlying79 ty; rw [hz] at hln; have HPP := Lib.hid HP2; clear HP2; have c2 := hR1.c2; have c6 := hR1.c6; have c8 := hR1.c8; have c9 := hR1.c9; have HR1 := Lib.hid hR1; clear hR1; have e1 : w1.cell? ⟨1, 0, none⟩ = some (.iface te ve) := by { rw [HW1.out, World.cell?_setCell_other _ _ _ _ (by intro e; injection e with e; exact hne e)]; exact HE.out }) | go_in)
    refine leaves_cons (f := 37) (args := #[.pointer (some ⟨m, 0, none⟩)]) (by simp) (by simp [go_sem]) ?_
    refine (unlock_deferred muLib ⟨m, 0, none⟩ .returning _ HR1.out.c0 (HR1.out.fz 0)).mono ?_
    rintro e u' w'' ⟨rfl, rfl, rfl⟩
    refine ⟨_, results_tmp rfl _ _ _, ?_⟩
    exact ua_end (locked HW1.out) HR1.out (Or.inr ⟨b, D, rfl, HPP.out⟩)
  · have hzp : (0 : Int) < (z : Int) := by omega
    go_wp2_with (first | (go_at_call 36; refine hlf.mono ?_; rintro e w1 ⟨rfl, hw1⟩; have HW1 := Lib.hid hw1; clear hw1; have hR1 := HR.out.lock 1; have HP2 := HP1.out; rw [← HW1.out] at hR1 HP2; have hln := fun ty => HP2.own.len Tryd.underlying79 ty; rw [hz] at hln; have hlk := (look_miss HP2 HNO.out hs64).2; have HPP := Lib.hid HP2; clear HP2; have c2 := hR1.c2; have c6 := hR1.c6; have c8 := hR1.c8; have c9 := hR1.c9; have HR1 := Lib.hid hR1; clear hR1; have e1 : w1.cell? ⟨1, 0, none⟩ = some (.iface te ve) := by { rw [HW1.out, World.cell?_setCell_other _ _ _ _ (by intro e; injection e with e; exact hne e)]; exact HE.out }) | go_in)
    refine leaves_cons (f := 37) (args := #[.pointer (some ⟨m, 0, none⟩)]) (by simp) (by simp [go_sem]) ?_
    refine (unlock_deferred muLib ⟨m, 0, none⟩ .returning _ HR1.out.c0 (HR1.out.fz 0)).mono ?_
    rintro e u' w'' ⟨rfl, rfl, rfl⟩
    refine ⟨_, results_tmp rfl _ _ _, ?_⟩
    exact ua_end (locked HW1.out) HR1.out (Or.inr ⟨b, D, rfl, HPP.out⟩)

theorem ack_miss (m n c s : Nat) (pv : Value) (te : TypeId) (ve : Value) (k : Kp) (w : World) (hR : Row w m 0 k pv (.map none) 2) (hP : Pend w pv n k.waits) (hc : k.fc < c) (hno : ∀ y ∈ k.waits, y.s ≠ s) (hs64 : s < 18446744073709551616) (hE : w.cell? ⟨1, 0, none⟩ = some (.iface te ve)) :
    Calls Tryd.prog 25 #[.pointer (some ⟨m, 0, none⟩), .int .u64 (c : Int), .int .u64 (s : Int)] w (UaPost m n k pv (.iface te ve) w) := by
  rcases hP with ⟨rfl, h2⟩ | ⟨b, D, rfl, hp⟩
  · exact ack_miss_none m n c s te ve k w hR h2 hc hs64 hE
  · exact ack_miss_some m n b c s D te ve k w hR hp hc hno hs64 hE
end Go.Proofs.YtchphfdoneckeaaDoor
