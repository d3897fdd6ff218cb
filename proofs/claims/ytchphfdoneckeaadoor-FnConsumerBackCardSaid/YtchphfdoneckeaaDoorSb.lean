/-
  The store's state, copied, where something was delivered again.
-/
import Derived.Test.YtchphfdoneckeaaDoorSt
import Derived.Test.YtchphfdoneckeaaDoorCr
namespace Go.Proofs.YtchphfdoneckeaaDoor
open Go.RowKit Go.MuLone
open Cs (Wt Kp Ag)

/-- a state's own block, and its maps -/
def StBoth (n : Nat) (k : Kp) (ag : List Ag) (m : Nat) (w : World) (e : Ending) (w' : World) : Prop :=
  ∃ sb pv' rv', e = .returned (.tuple #[.pointer (some ⟨sb, 0, none⟩), .nilIface]) ∧ KeptAt w' sb k pv' rv' ∧ Pend w' pv' n k.waits ∧ Redel w' rv' n ag ∧ (ag = [] → rv' = .map none) ∧ But (fun j => j = m) w w'

set_option maxHeartbeats 1000000 in
set_option maxRecDepth 100000 in
theorem state_both (m n b rb : Nat) (D E : DataW Unit) (k : Kp) (ag : List Ag) (ack : Int) (w : World) (hR : Row w m 0 k (.map (some b)) (.map (some rb)) ack) (hP : PMap w b n D k.waits) (hQ : RMap w rb n E ag) (hk : k.waits ≠ []) (ha : ag ≠ []) (hn : n ≤ 1000000) (hF : Fits k)
    (hu : Cs.AUp ag) (hs : ∀ x ∈ ag, x.s < 18446744073709551616 ∧ x.n < 18446744073709551616) :
    Calls Tryd.prog 30 #[.pointer (some ⟨m, 0, none⟩), .bool true] w (StBoth n k ag m w) := by
  have hlf := lock_free muLib ⟨m, 0, none⟩ w hR.c0 (hR.fz 0)
  have HR := Lib.hid hR
  have hz : (0 : Int) < (Maps.size D : Int) := by
    have := mt hP.size_pos.1 hk
    omega
  have hzE : (0 : Int) < (Maps.size E : Int) := by
    have := mt hQ.size_pos.1 ha
    omega
  have hbm : But (fun j => j = m) w (w.setCell ⟨m, 0, none⟩ (.int .i32 1)) := (But.refl (fun j => j = m) w).setCell ⟨m, 0, none⟩ (.int .i32 1) (fun _ => rfl)
  have hP1 : PMap (w.setCell ⟨m, 0, none⟩ (.int .i32 1)) b n D k.waits := hP.but hbm (hP.ne hR) (fun p cs f e => by subst e; exact hR.not93 cs f)
  have hrm : rb ≠ m := by
    obtain ⟨es, clock, hm, _⟩ := hQ.own
    intro e
    rw [e, show w.heap[m]? = _ from hR] at hm
    cases hm
  have hQ1 : RMap (w.setCell ⟨m, 0, none⟩ (.int .i32 1)) rb n E ag := hQ.but hbm hrm
  have HP1 := Lib.hid (And.intro hP1 hQ1)
  have HA := Lib.hid (And.intro hu (And.intro hs ha))
  clear hR hk hP hP1 hQ hQ1 hbm hu hs ha
  go_enter_defers Tryd.func30, Tryd.ntmps30
  go_wp2_with (go_at_call 36; refine hlf.mono ?_; rintro e w1 ⟨rfl, hw1⟩; have HW1 := Lib.hid hw1; clear hw1; have hR1 := HR.out.lock 1; have HP2 := HP1.out; rw [← HW1.out] at hR1 HP2; have hln := fun o ty => (HP2.1.own.alloc o).len Tryd.underlying79 ty; have c4 := past hR1.c4; have c5 := past hR1.c5; have c6 := past hR1.c6; have c7 := past hR1.c7; have c8 := past hR1.c8; have c9 := past hR1.c9; have c10 := hR1.c10; have HR1 := Lib.hid hR1; have HPP := Lib.hid HP2; clear hR1 HP2)
  have hW : ∃ W, W = w1.alloc (.cells #[.int .u64 (k.dc : Int), .int .u64 (k.ds : Int), .int .u64 (k.fc : Int), .int .u64 (k.fs : Int), .map none, .map none] 82) := ⟨_, rfl⟩
  obtain ⟨W, hW⟩ := hW
  rw [← hW]
  have hRW : Row W m 1 k (.map (some b)) (.map (some rb)) ack := by rw [hW]; exact Row.at HR1.out (Below.heap_alloc _ _ _ HR1.out.lt)
  have hbW : Below w1.heap.size w1 W := by rw [hW]; exact (Below.refl _ _).alloc (Nat.le_refl _) _
  have hPW : PMap W b n D k.waits := HPP.out.1.but (S := fun _ => False) (But.of hbW) (fun h => h) (fun _ _ _ h => h.elim)
  have hQW : RMap W rb n E ag := HPP.out.2.but (S := fun _ => False) (But.of hbW) (fun h => h)
  have hKW : KeptAt W w1.heap.size k (.map none) (.map none) := by rw [hW]; exact K.heap_alloc_at _ _
  have hsW : W.heap.size = w1.heap.size + 1 := by rw [hW]; simp
  have h39 := copyPending_any m b n D k 1 ack (.map (some rb)) W hRW hPW hn hF.up hF.s
  have HH := Lib.hid (And.intro hRW (And.intro hbW (And.intro hPW (And.intro hKW (And.intro hQW hsW)))))
  clear hRW hbW hPW hKW hQW hW
  refine h39.mono ?_
  rintro e w2 ⟨D', rfl, hP2, hb2⟩
  have hK2 : KeptAt w2 w1.heap.size k (.map none) (.map none) := (hb2.block _ (by omega)).trans HH.out.2.2.2.1
  have hR2 : Row w2 m 1 k (.map (some b)) (.map (some rb)) ack := HH.out.1.but (But.of hb2) (S := fun _ => False) (fun h => h)
  have hQ2 : RMap w2 rb n E ag := HH.out.2.2.2.2.1.but (S := fun _ => False) (But.of hb2) (fun h => h)
  have d4 : w2.cell? ⟨w1.heap.size, 4, none⟩ = some (.map none) := cell_of hK2 rfl
  have d4f : w2.frozen? ⟨w1.heap.size, 4, none⟩ = false := thawed hK2 4
  have hne : w1.heap.size ≠ m := by have := HR1.out.lt; omega
  have hb3 : But (fun j => j = w1.heap.size) w2 (w2.setCell ⟨w1.heap.size, 4, none⟩ (.map (some W.heap.size))) := (But.refl _ w2).setCell _ _ (fun _ => rfl)
  have hK3 : KeptAt (w2.setCell ⟨w1.heap.size, 4, none⟩ (.map (some W.heap.size))) w1.heap.size k (.map (some W.heap.size)) (.map none) := K.heap_setCell_at hK2 _
  have hR3 : Row (w2.setCell ⟨w1.heap.size, 4, none⟩ (.map (some W.heap.size))) m 1 k (.map (some b)) (.map (some rb)) ack := hR2.but hb3 (fun e => hne e.symm)
  have hP3 := hP2.but hb3 (fun e => by omega) (fun p cs f e => by
    subst e
    rw [show w2.heap[w1.heap.size]? = _ from hK2]
    intro e; injection e with e; injection e with _ e _; exact absurd e (by decide))
  have hrb : rb ≠ w1.heap.size := by
    obtain ⟨es, clock, hm, _⟩ := hQ2.own
    intro e
    rw [e, show w2.heap[w1.heap.size]? = _ from hK2] at hm
    cases hm
  have hQ3 := hQ2.but hb3 hrb
  have c9' := hR3.c9
  have hln80 := fun ty => hQ3.own.len Tryd.underlying80 ty
  have h40 := copyRedelivered_any m rb n E k ag 1 ack (.map (some b)) _ hR3 hQ3 hn HA.out.1 HA.out.2.1
  have hbV : But (fun j => j = m) w (w2.setCell ⟨w1.heap.size, 4, none⟩ (.map (some W.heap.size))) := by
    have hb1 : But (fun j => j = m) w w1 := by rw [HW1.out]; exact (But.refl _ w).setCell _ _ (fun _ => rfl)
    exact ((hb1.trans (But.of HH.out.2.1)).trans (But.of hb2)).setCell _ _ (fun h => by have := hb1.size; simp at h; omega)
  have HH3 := Lib.hid (And.intro hK3 (And.intro hR3 hP3))
  have HBV := Lib.hid hbV
  clear hK2 hR2 hP2 hb2 h39 hsW hQ2 hb3 hK3 hR3 hP3 hQ3 hrb hne hbV
  clear c4 c5 c6 c7 c8 c9 c10 hln hlf
  go_wp2_with fail
  refine h40.mono ?_
  rintro e w5 ⟨E', rfl, hQ5, hb5⟩
  have hK5 : KeptAt w5 w1.heap.size k (.map (some W.heap.size)) (.map none) := (hb5.block _ (by have := lt_of_heap HH3.out.1; omega)).trans HH3.out.1
  have hR5 : Row w5 m 1 k (.map (some b)) (.map (some rb)) ack := HH3.out.2.1.but (But.of hb5) (S := fun _ => False) (fun h => h)
  have hP5 := HH3.out.2.2.but (S := fun _ => False) (But.of hb5) (fun h => h) (fun _ _ _ h => h.elim)
  have d5 : w5.cell? ⟨w1.heap.size, 5, none⟩ = some (.map none) := cell_of hK5 rfl
  have d5f : w5.frozen? ⟨w1.heap.size, 5, none⟩ = false := thawed hK5 5
  have HH5 := Lib.hid (And.intro hK5 (And.intro hR5 (And.intro hP5 hQ5)))
  have HB5 := Lib.hid (HBV.out.trans (But.of hb5))
  clear hK5 hR5 hP5 hQ5 hb5 h40 hln80 c9' d4 d4f
  go_wp2_with fail
  refine leaves_cons (f := 37) (args := #[.pointer (some ⟨m, 0, none⟩)]) (by simp) (by simp [go_sem]) ?_
  have hm := HR1.out.lt
  have hsW := HH.out.2.2.2.2.2
  have hs2 := lt_of_heap HH3.out.1
  have hsz : (w2.setCell ⟨w1.heap.size, 4, none⟩ (.map (some W.heap.size))).heap.size = w2.heap.size := by simp
  rw [hsz] at hs2
  have hQ5 := HH5.out.2.2.2
  rw [hsz] at hQ5
  have hb6 : But (fun j => j = w1.heap.size) w5 (w5.setCell ⟨w1.heap.size, 5, none⟩ (.map (some w2.heap.size))) := (But.refl _ w5).setCell _ _ (fun _ => rfl)
  have hK6 : KeptAt (w5.setCell ⟨w1.heap.size, 5, none⟩ (.map (some w2.heap.size))) w1.heap.size k (.map (some W.heap.size)) (.map (some w2.heap.size)) := K.heap_setCell_at HH5.out.1 _
  have hR6 := HH5.out.2.1.but hb6 (by omega)
  have hP6 := HH5.out.2.2.1.but hb6 (by omega) (fun p cs f e => by
    subst e
    rw [show w5.heap[w1.heap.size]? = _ from HH5.out.1]
    intro e; injection e with e; injection e with _ e _; exact absurd e (by decide))
  have hQ6 := hQ5.but hb6 (by omega)
  have hb6w : But (fun j => j = m) w (w5.setCell ⟨w1.heap.size, 5, none⟩ (.map (some w2.heap.size))) := HB5.out.setCell _ _ (fun h => by
    have hb1 : But (fun j => j = m) w w1 := by rw [HW1.out]; exact (But.refl _ w).setCell _ _ (fun _ => rfl)
    have := hb1.size; simp at h; omega)
  generalize w5.setCell ⟨w1.heap.size, 5, none⟩ (.map (some w2.heap.size)) = V at hK6 hR6 hP6 hQ6 hb6w ⊢
  refine (unlock_deferred muLib ⟨m, 0, none⟩ .returning _ hR6.c0 (hR6.fz 0)).mono ?_
  rintro e u' w'' ⟨rfl, rfl, rfl⟩
  have hb7 : But (fun j => j = m) V (V.setCell ⟨m, 0, none⟩ (.int .i32 0)) := (But.refl _ V).setCell _ _ (fun _ => rfl)
  exact ⟨_, results_tmp2 rfl _ _ _, _, _, _, rfl, (hb7.block _ (lt_of_heap hK6) (by omega)).trans hK6, Or.inr ⟨_, _, rfl, hP6.but hb7 (by omega) (fun p cs f e => by rw [e]; exact hR6.not93 cs f)⟩, Or.inr ⟨_, _, rfl, hQ6.but hb7 (by omega)⟩, (fun h => absurd h HA.out.2.2), hb6w.trans hb7⟩
/-- the state, whatever waits and whatever was delivered again -/
theorem stateCopy_all (m n : Nat) (pv rv : Value) (k : Kp) (ag : List Ag) (ack : Int) (w : World) (hR : Row w m 0 k pv rv ack) (hP : Pend w pv n k.waits) (hQ : Redel w rv n ag) (h0 : ag = [] → rv = .map none) (hw : k.waits = [] → ag = []) (hn : n ≤ 1000000) (hF : Fits k)
    (hu : Cs.AUp ag) (hs : ∀ x ∈ ag, x.s < 18446744073709551616 ∧ x.n < 18446744073709551616) :
    Calls Tryd.prog 30 #[.pointer (some ⟨m, 0, none⟩), .bool true] w (StBoth n k ag m w) := by
  by_cases ha : ag = []
  · obtain rfl := h0 ha
    refine (stateCopy_any m n pv k ack w hR hP hn hF).mono ?_
    rintro e w' ⟨sb, pv', rfl, _, hK, hP', _, hb, _⟩
    exact ⟨sb, pv', .map none, rfl, hK, hP', Or.inl ⟨rfl, ha⟩, (fun _ => rfl), hb⟩
  · rcases hQ with ⟨_, h2⟩ | ⟨rb, E, rfl, hq⟩
    · exact absurd h2 ha
    · rcases hP with ⟨_, h2⟩ | ⟨b, D, rfl, hp⟩
      · exact absurd (hw h2) ha
      · exact state_both m n b rb D E k ag ack w hR hp hq (fun h => ha (hw h)) ha hn hF hu hs
set_option maxRecDepth 100000 in
theorem state_all (m n : Nat) (pv rv : Value) (k : Kp) (ag : List Ag) (ack : Int) (w : World) (hR : Row w m 0 k pv rv ack) (hP : Pend w pv n k.waits) (hQ : Redel w rv n ag) (h0 : ag = [] → rv = .map none) (hw : k.waits = [] → ag = []) (hn : n ≤ 1000000) (hF : Fits k)
    (hu : Cs.AUp ag) (hs : ∀ x ∈ ag, x.s < 18446744073709551616 ∧ x.n < 18446744073709551616) :
    Calls Tryd.prog 18 #[.pointer (some ⟨m, 0, none⟩)] w (StBoth n k ag m w) := by
  have h30 := stateCopy_all m n pv rv k ag ack w hR hP hQ h0 hw hn hF hu hs
  clear hR hP hQ h0 hw hu hs
  go_enter Tryd.func18, Tryd.ntmps18
  go_wp2_with fail
  refine h30.mono ?_
  rintro e w1 ⟨sb, pv', rv', rfl, h⟩
  have H := Lib.hid h
  clear h h30
  go_wp2_with fail
  go_ret2
  exact ⟨sb, pv', rv', rfl, H.out⟩
end Go.Proofs.YtchphfdoneckeaaDoor
