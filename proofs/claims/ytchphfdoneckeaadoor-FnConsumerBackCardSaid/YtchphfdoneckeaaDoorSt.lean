/-
  The store's state, copied.
-/
import Derived.Test.YtchphfdoneckeaaDoorCp
import Derived.Conc.MuLone
namespace Go.Proofs.YtchphfdoneckeaaDoor
open Go.RowKit Go.MuLone
open Cs (Wt Kp)

def KeptAt (w : World) (sb : Nat) (k : Kp) (pv rv : Value) : Prop := w.heap[sb]? = some (.cells #[.int .u64 (k.dc : Int), .int .u64 (k.ds : Int), .int .u64 (k.fc : Int), .int .u64 (k.fs : Int), pv, rv] 82 (0, 0))
structure Fits (k : Kp) : Prop where
  up : Cs.Up k.waits
  s : ∀ x ∈ k.waits, x.s < 18446744073709551616
def StPost (m n : Nat) (k : Kp) (pv rv : Value) (ack : Int) (w : World) (e : Ending) (w' : World) : Prop :=
  ∃ sb pv', e = .returned (.tuple #[.pointer (some ⟨sb, 0, none⟩), .nilIface]) ∧ w.heap.size ≤ sb ∧ KeptAt w' sb k pv' (.map none) ∧ Pend w' pv' n k.waits ∧ Row w' m 0 k pv rv ack ∧ But (fun j => j = m) w w' ∧ ∀ b, pv' = .map (some b) → w.heap.size ≤ b

theorem far_m {w : World} {m : Nat} {lk : Int} {k : Kp} {pv rv : Value} {ack : Int} {n : Nat} {l : List Wt} (h : Row w m lk k pv rv ack) (hP : Pend w pv n l) : Far w (fun j => j = m) pv := by
  refine ⟨fun b hb e => ?_, fun p cs f hp => by rw [hp]; exact h.not93 cs f⟩
  rcases hP with ⟨h1, _⟩ | ⟨b', D, h1, hp⟩
  · rw [h1] at hb; cases hb
  · rw [h1] at hb
    cases hb
    exact hp.ne h e
theorem no_far (w : World) (pv : Value) : Far w (fun _ => False) pv := ⟨fun _ _ h => h, fun _ _ _ h => h.elim⟩

theorem past {w : World} {a : Addr} {v : Value} (h : w.cell? a = some v) : ∀ o, (w.alloc o).cell? a = some v := fun o => by
  have hl := World.block_lt_of_cell? w a h
  have := Below.heap_alloc w o a.block hl
  simp only [World.cell?] at h ⊢
  rw [this]; exact h
theorem st_end {w W : World} {m n sb : Nat} {k : Kp} {pv pv' rv : Value} {ack : Int} (hR : Row W m 1 k pv rv ack) (hK : KeptAt W sb k pv' (.map none)) (hP : Pend W pv' n k.waits) (hb : But (fun j => j = m) w W) (hsb : w.heap.size ≤ sb) (hm : m < w.heap.size)
    (hn : ∀ b, pv' = .map (some b) → w.heap.size ≤ b) : StPost m n k pv rv ack w (.returned (.tuple #[.pointer (some ⟨sb, 0, none⟩), .nilIface])) (W.setCell ⟨m, 0, none⟩ (.int .i32 0)) := by
  have h0 : But (fun j => j = m) W (W.setCell ⟨m, 0, none⟩ (.int .i32 0)) := (But.refl _ W).setCell _ _ (fun _ => rfl)
  refine ⟨sb, pv', rfl, hsb, ?_, hP.but h0 ?_, hR.lock 0, hb.trans h0, hn⟩
  · exact (h0.block sb (lt_of_heap hK) (by omega)).trans hK
  · refine ⟨fun b hb' e => by have := hn b hb'; omega, fun p cs f hp => by rw [hp]; exact hR.not93 cs f⟩

set_option maxRecDepth 100000 in
theorem state_none (m n : Nat) (k : Kp) (ack : Int) (w : World) (hR : Row w m 0 k (.map none) (.map none) ack) (hk : k.waits = []) :
    Calls Tryd.prog 30 #[.pointer (some ⟨m, 0, none⟩), .bool true] w (StPost m n k (.map none) (.map none) ack w) := by
  have hlf := lock_free muLib ⟨m, 0, none⟩ w hR.c0 (hR.fz 0)
  have HR := Lib.hid hR
  have HK := Lib.hid hk
  clear hR hk
  have hln := fun (w : World) (ty : TypeId) => Maps.len_nil (w := w) Tryd.underlying79 ty
  have hln2 := fun (w : World) (ty : TypeId) => Maps.len_nil (w := w) Tryd.underlying80 ty
  go_enter_defers Tryd.func30, Tryd.ntmps30
  go_wp2_with (go_at_call 36; refine hlf.mono ?_; rintro e w1 ⟨rfl, hw1⟩; have HW1 := Lib.hid hw1; clear hw1; have hR1 := HR.out.lock 1; rw [← HW1.out] at hR1; have c4 := past hR1.c4; have c5 := past hR1.c5; have c6 := past hR1.c6; have c7 := past hR1.c7; have c8 := past hR1.c8; have c9 := past hR1.c9; have c10 := hR1.c10; have HR1 := Lib.hid hR1; clear hR1)
  refine leaves_cons (f := 37) (args := #[.pointer (some ⟨m, 0, none⟩)]) (by simp) (by simp [go_sem]) ?_
  refine (unlock_deferred muLib ⟨m, 0, none⟩ .returning _ ?_ ?_).mono ?_
  · exact past HR1.out.c0 _
  · exact ((Row.at HR1.out (Below.heap_alloc _ _ _ HR1.out.lt)).fz 0)
  rintro e u' w'' ⟨rfl, rfl, rfl⟩
  have hb1 : But (fun j => j = m) w w1 := by rw [HW1.out]; exact (But.refl _ w).setCell _ _ (fun _ => rfl)
  refine ⟨_, results_tmp2 rfl _ _ _, st_end (Row.at HR1.out (Below.heap_alloc _ _ _ HR1.out.lt)) (K.heap_alloc_at _ _) (Or.inl ⟨rfl, HK.out⟩) (hb1.alloc _) hb1.size HR.out.lt (fun b h => by cases h)⟩

set_option maxRecDepth 100000 in
theorem state_empty (m n b : Nat) (D : DataW Unit) (k : Kp) (ack : Int) (w : World) (hR : Row w m 0 k (.map (some b)) (.map none) ack) (hP : PMap w b n D k.waits) (hk : k.waits = []) :
    Calls Tryd.prog 30 #[.pointer (some ⟨m, 0, none⟩), .bool true] w (StPost m n k (.map (some b)) (.map none) ack w) := by
  have hlf := lock_free muLib ⟨m, 0, none⟩ w hR.c0 (hR.fz 0)
  have HR := Lib.hid hR
  have hz := hP.size_pos.2 hk
  have hown1 := hP.own.setCell (a := ⟨m, 0, none⟩) (hP.ne hR) (.int .i32 1)
  have HK := Lib.hid hk
  have HO := Lib.hid hown1
  clear hR hk hP hown1
  have hln2 := fun (w : World) (ty : TypeId) => Maps.len_nil (w := w) Tryd.underlying80 ty
  go_enter_defers Tryd.func30, Tryd.ntmps30
  go_wp2_with (go_at_call 36; refine hlf.mono ?_; rintro e w1 ⟨rfl, hw1⟩; have HW1 := Lib.hid hw1; clear hw1; have hR1 := HR.out.lock 1; have HO1 := HO.out; rw [← HW1.out] at hR1 HO1; have hln := fun o ty => (HO1.alloc o).len Tryd.underlying79 ty; rw [hz] at hln; have c4 := past hR1.c4; have c5 := past hR1.c5; have c6 := past hR1.c6; have c7 := past hR1.c7; have c8 := past hR1.c8; have c9 := past hR1.c9; have c10 := hR1.c10; have HR1 := Lib.hid hR1; clear hR1 HO1)
  refine leaves_cons (f := 37) (args := #[.pointer (some ⟨m, 0, none⟩)]) (by simp) (by simp [go_sem]) ?_
  refine (unlock_deferred muLib ⟨m, 0, none⟩ .returning _ ?_ ?_).mono ?_
  · exact past HR1.out.c0 _
  · exact ((Row.at HR1.out (Below.heap_alloc _ _ _ HR1.out.lt)).fz 0)
  rintro e u' w'' ⟨rfl, rfl, rfl⟩
  have hb1 : But (fun j => j = m) w w1 := by rw [HW1.out]; exact (But.refl _ w).setCell _ _ (fun _ => rfl)
  refine ⟨_, results_tmp2 rfl _ _ _, st_end (Row.at HR1.out (Below.heap_alloc _ _ _ HR1.out.lt)) (K.heap_alloc_at _ _) (Or.inl ⟨rfl, HK.out⟩) (hb1.alloc _) hb1.size HR.out.lt (fun b h => by cases h)⟩

set_option maxRecDepth 100000 in
theorem state_some (m n b : Nat) (D : DataW Unit) (k : Kp) (ack : Int) (w : World) (hR : Row w m 0 k (.map (some b)) (.map none) ack) (hP : PMap w b n D k.waits) (hk : k.waits ≠ []) (hn : n ≤ 1000000) (hF : Fits k) :
    Calls Tryd.prog 30 #[.pointer (some ⟨m, 0, none⟩), .bool true] w (StPost m n k (.map (some b)) (.map none) ack w) := by
  have hlf := lock_free muLib ⟨m, 0, none⟩ w hR.c0 (hR.fz 0)
  have HR := Lib.hid hR
  have hz : (0 : Int) < (Maps.size D : Int) := by
    have := mt hP.size_pos.1 hk
    omega
  have hP1 : PMap (w.setCell ⟨m, 0, none⟩ (.int .i32 1)) b n D k.waits := hP.but ((But.refl (fun j => j = m) w).setCell ⟨m, 0, none⟩ (.int .i32 1) (fun _ => rfl)) (hP.ne hR) (fun p cs f e => by subst e; exact hR.not93 cs f)
  have HP1 := Lib.hid hP1
  clear hR hk hP hP1
  have hln2 := fun (w : World) (ty : TypeId) => Maps.len_nil (w := w) Tryd.underlying80 ty
  go_enter_defers Tryd.func30, Tryd.ntmps30
  go_wp2_with (go_at_call 36; refine hlf.mono ?_; rintro e w1 ⟨rfl, hw1⟩; have HW1 := Lib.hid hw1; clear hw1; have hR1 := HR.out.lock 1; have HP2 := HP1.out; rw [← HW1.out] at hR1 HP2; have hln := fun o ty => (HP2.own.alloc o).len Tryd.underlying79 ty; have c4 := past hR1.c4; have c5 := past hR1.c5; have c6 := past hR1.c6; have c7 := past hR1.c7; have c8 := past hR1.c8; have c9 := past hR1.c9; have c10 := hR1.c10; have HR1 := Lib.hid hR1; have HPP := Lib.hid HP2; clear hR1 HP2)
  have hW : ∃ W, W = w1.alloc (.cells #[.int .u64 (k.dc : Int), .int .u64 (k.ds : Int), .int .u64 (k.fc : Int), .int .u64 (k.fs : Int), .map none, .map none] 82) := ⟨_, rfl⟩
  obtain ⟨W, hW⟩ := hW
  rw [← hW]
  have hRW : Row W m 1 k (.map (some b)) (.map none) ack := by rw [hW]; exact Row.at HR1.out (Below.heap_alloc _ _ _ HR1.out.lt)
  have hbW : Below w1.heap.size w1 W := by rw [hW]; exact (Below.refl _ _).alloc (Nat.le_refl _) _
  have hPW : PMap W b n D k.waits := HPP.out.but (S := fun _ => False) (But.of hbW) (fun h => h) (fun _ _ _ h => h.elim)
  have hKW : KeptAt W w1.heap.size k (.map none) (.map none) := by rw [hW]; exact K.heap_alloc_at _ _
  have hsW : W.heap.size = w1.heap.size + 1 := by rw [hW]; simp
  have h39 := copyPending_any m b n D k 1 ack (.map none) W hRW hPW hn hF.up hF.s
  have HH := Lib.hid (And.intro hRW (And.intro hbW (And.intro hPW (And.intro hKW hsW))))
  clear hRW hbW hPW hKW hW
  refine h39.mono ?_
  rintro e w2 ⟨D', rfl, hP2, hb2⟩
  have hK2 : KeptAt w2 w1.heap.size k (.map none) (.map none) := (hb2.block _ (by omega)).trans HH.out.2.2.2.1
  have hR2 : Row w2 m 1 k (.map (some b)) (.map none) ack := HH.out.1.but (But.of hb2) (S := fun _ => False) (fun h => h)
  have d4 : w2.cell? ⟨w1.heap.size, 4, none⟩ = some (.map none) := cell_of hK2 rfl
  have d4f : w2.frozen? ⟨w1.heap.size, 4, none⟩ = false := thawed hK2 4
  have c9' : (w2.setCell ⟨w1.heap.size, 4, none⟩ (.map (some W.heap.size))).cell? ⟨m, 9, none⟩ = some (.map none) := by
    rw [World.cell?_setCell_other _ _ _ _ (by have := HR1.out.lt; intro e; injection e with e; omega)]; exact hR2.c9
  have HH2 := Lib.hid (And.intro hK2 (And.intro hR2 (And.intro hP2 hb2)))
  clear hK2 hR2 hP2 hb2 h39 hsW
  go_wp2_with fail
  refine leaves_cons (f := 37) (args := #[.pointer (some ⟨m, 0, none⟩)]) (by simp) (by simp [go_sem]) ?_
  have hne : w1.heap.size ≠ m := by have := HR1.out.lt; omega
  have hb3 : But (fun j => j = w1.heap.size) w2 (w2.setCell ⟨w1.heap.size, 4, none⟩ (.map (some W.heap.size))) := (But.refl _ w2).setCell _ _ (fun _ => rfl)
  have hR3 : Row (w2.setCell ⟨w1.heap.size, 4, none⟩ (.map (some W.heap.size))) m 1 k (.map (some b)) (.map none) ack := HH2.out.2.1.but hb3 (fun e => hne e.symm)
  have hK3 : KeptAt (w2.setCell ⟨w1.heap.size, 4, none⟩ (.map (some W.heap.size))) w1.heap.size k (.map (some W.heap.size)) (.map none) := K.heap_setCell_at HH2.out.1 _
  have hP3 := HH2.out.2.2.1.but hb3 (fun e => by have := HH.out.2.2.2.2; omega) (fun p cs f e => by
    subst e
    rw [show w2.heap[w1.heap.size]? = _ from HH2.out.1]
    intro e; injection e with e; injection e with _ e _; exact absurd e (by decide))
  refine (unlock_deferred muLib ⟨m, 0, none⟩ .returning _ hR3.c0 (hR3.fz 0)).mono ?_
  rintro e u' w'' ⟨rfl, rfl, rfl⟩
  have hb1 : But (fun j => j = m) w w1 := by rw [HW1.out]; exact (But.refl _ w).setCell _ _ (fun _ => rfl)
  have hbW : But (fun j => j = m) w W := hb1.trans (But.of HH.out.2.1)
  have hb4 : But (fun j => j = m) w (w2.setCell ⟨w1.heap.size, 4, none⟩ (.map (some W.heap.size))) :=
    ((hbW.trans (But.of HH2.out.2.2.2)).setCell _ _ (fun h => by have := hb1.size; simp at h; omega))
  refine ⟨_, results_tmp2 rfl _ _ _, ?_⟩
  exact st_end hR3 hK3 (Or.inr ⟨_, _, rfl, hP3⟩) hb4 hb1.size HR.out.lt (fun b h => by cases h; exact hbW.size)

theorem stateCopy_any (m n : Nat) (pv : Value) (k : Kp) (ack : Int) (w : World) (hR : Row w m 0 k pv (.map none) ack) (hP : Pend w pv n k.waits) (hn : n ≤ 1000000) (hF : Fits k) :
    Calls Tryd.prog 30 #[.pointer (some ⟨m, 0, none⟩), .bool true] w (StPost m n k pv (.map none) ack w) := by
  rcases hP with ⟨rfl, h2⟩ | ⟨b, D, rfl, hp⟩
  · exact state_none m n k ack w hR h2
  · by_cases h : k.waits = []
    · exact state_empty m n b D k ack w hR hp h
    · exact state_some m n b D k ack w hR hp h hn hF
set_option maxRecDepth 100000 in
theorem state_any (m n : Nat) (pv : Value) (k : Kp) (ack : Int) (w : World) (hR : Row w m 0 k pv (.map none) ack) (hP : Pend w pv n k.waits) (hn : n ≤ 1000000) (hF : Fits k) :
    Calls Tryd.prog 18 #[.pointer (some ⟨m, 0, none⟩)] w (StPost m n k pv (.map none) ack w) := by
  have h30 := stateCopy_any m n pv k ack w hR hP hn hF
  clear hR hP
  go_enter Tryd.func18, Tryd.ntmps18
  go_wp2_with fail
  refine h30.mono ?_
  rintro e w1 ⟨sb, pv', rfl, h⟩
  have H := Lib.hid h
  clear h h30
  go_wp2_with fail
  go_ret2
  exact ⟨sb, pv', rfl, H.out⟩
end Go.Proofs.YtchphfdoneckeaaDoor
