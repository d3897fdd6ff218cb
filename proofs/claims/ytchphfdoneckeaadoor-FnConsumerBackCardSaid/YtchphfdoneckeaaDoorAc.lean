/-
  A new store; a deed over it; an error's kind.
-/
import Derived.Test.YtchphfdoneckeaaDoorUc
namespace Go.Proofs.YtchphfdoneckeaaDoor
open Go.RowKit
open Cs (Wt Kp)

set_option maxRecDepth 100000 in
theorem new_any (ack : Int) (w : World) : Calls Tryd.prog 15 #[.agg #[.int .i64 ack, .int .i64 0]] w fun e w' => ∃ m, e = .returned (.pointer (some ⟨m, 0, none⟩)) ∧ w.heap.size ≤ m ∧ Row w' m 0 Cs.k0 (.map none) (.map none) ack ∧ Below w.heap.size w w' := by
  go_enter Tryd.func15, Tryd.ntmps15
  go_wp2_with fail
  go_ret
  have h := K.heap_alloc_at (w.alloc (.cells #[.int .i64 ack, .int .i64 0] 56)) (.cells #[.int .i32 0, .int .u32 0, .int .i64 ack, .int .i64 0, .int .u64 0, .int .u64 0, .int .u64 0, .int .u64 0, .map none, .map none, .bool false] 84)
  rw [show (w.alloc (.cells #[.int .i64 ack, .int .i64 0] 56)).heap.size = w.heap.size + 1 by simp] at h
  exact ⟨_, rfl, by simp, h, ((Below.refl _ w).alloc (Nat.le_refl _) _).alloc (by simp) _⟩
set_option maxRecDepth 100000 in
theorem one_nil (w : World) : Calls Tryd.prog 16 #[.nilIface] w fun e w' => e = .returned (.int .i64 0) ∧ w' = w := by
  go_enter Tryd.func16, Tryd.ntmps16
  go_wp2_with fail
  go_ret
  exact ⟨rfl, rfl⟩
set_option maxRecDepth 100000 in
theorem one_err (te : TypeId) (ve : Value) (w : World) : Calls Tryd.prog 16 #[.iface te ve] w fun e w' => e = .returned (.int .i64 1) ∧ w' = w := by
  go_enter Tryd.func16, Tryd.ntmps16
  go_wp2_with fail
  go_ret
  exact ⟨rfl, rfl⟩

/-- a deed that delivers, one that acknowledges -/
def dlvRow (c s : Nat) (t : Int) : Array Value := #[.int .i64 0, .int .u64 (c : Int), .int .u64 (s : Int), .int .u64 1, .int .i64 t, .int .u64 0, .int .u64 0, .int .u64 0, .int .u64 0, .slice none 0 0, .slice none 0 0]
def ackRow (c s : Nat) : Array Value := #[.int .i64 1, .int .u64 (c : Int), .int .u64 (s : Int), .int .u64 0, .int .i64 0, .int .u64 0, .int .u64 0, .int .u64 0, .int .u64 0, .slice none 0 0, .slice none 0 0]
/-- what a deed leaves -/
def DoPost (m n : Nat) (k' : Kp) (pv ev : Value) (w : World) (e : Ending) (w' : World) : Prop :=
  e = .returned ev ∧ ∃ pv', Row w' m 0 k' pv' (.map none) 2 ∧ Pend w' pv' n k'.waits ∧ But (fun j => j = m ∨ pv = .map (some j)) w w' ∧ ∀ b, pv' = .map (some b) → pv = .map (some b) ∨ w.heap.size ≤ b

set_option maxRecDepth 100000 in
theorem act_dlv (m n c s : Nat) (t : Int) (pv : Value) (k : Kp) (w : World) (hR : Row w m 0 k pv (.map none) 2) (hP : Pend w pv n k.waits) (hn : n ≤ 1000000) (hk : Cs.Sound k) (hc : k.dc < c) (hs : k.ds < s) (hs64 : s < 18446744073709551616) :
    Calls Tryd.prog 17 #[.pointer (some ⟨m, 0, none⟩), .agg (dlvRow c s t)] w (DoPost m (n + 1) (Cs.dlv k c s t) pv .nilIface w) := by
  have hb0 : But (fun _ => False) w (w.alloc (.cells (dlvRow c s t) 37)) := (But.refl _ w).alloc _
  have h24 := deliver_any m n c s t pv k _ (hR.but hb0 (fun h => h)) (hP.but hb0 (no_far _ _)) hn hk hc hs hs64
  have HB := Lib.hid hb0
  clear hR hP hk hb0
  unfold dlvRow at h24 HB ⊢
  go_enter Tryd.func17, Tryd.ntmps17
  go_wp2_with fail
  refine h24.mono ?_
  rintro e w1 ⟨rfl, pv', h1, h2, h3, h4⟩
  have H := Lib.hid (And.intro h1 (And.intro h2 (And.intro h3 h4)))
  clear h1 h2 h3 h4 h24
  go_wp2_with fail
  go_ret
  obtain ⟨h1, h2, h3, h4⟩ := H.out
  refine ⟨rfl, pv', h1, h2, (HB.out.mono (fun _ _ h => h.elim)).trans h3, fun b hb => ?_⟩
  rcases h4 b hb with h | h
  · exact Or.inl h
  · have := HB.out.size; exact Or.inr (by omega)
/-- what an acknowledgement leaves -/
structure AckAs (k : Kp) (c s : Nat) (te : TypeId) (ve : Value) (k' : Kp) (ev : Value) : Prop where
  h : (c ≤ k.fc ∧ k' = k ∧ ev = .nilIface) ∨ (k.fc < c ∧ (∀ y ∈ k.waits, y.s ≠ s) ∧ k' = k ∧ ev = .iface te ve) ∨ (∃ x ∈ k.waits, x.s = s ∧ x.c = c ∧ k' = Cs.ackd k c s ∧ ev = .nilIface)

theorem ack_do (m n c s : Nat) (pv : Value) (te : TypeId) (ve : Value) (k k' : Kp) (ev : Value) (w : World) (hR : Row w m 0 k pv (.map none) 2) (hP : Pend w pv n k.waits) (hk : Cs.Sound k) (hs64 : s < 18446744073709551616)
    (hdc : k.dc < 18446744073709551615) (hds : k.ds < 18446744073709551615) (hE : w.cell? ⟨1, 0, none⟩ = some (.iface te ve)) (hA : AckAs k c s te ve k' ev) :
    Calls Tryd.prog 25 #[.pointer (some ⟨m, 0, none⟩), .int .u64 (c : Int), .int .u64 (s : Int)] w (UaPost m n k' pv ev w) := by
  rcases hA.h with ⟨h1, rfl, rfl⟩ | ⟨h1, h2, rfl, rfl⟩ | ⟨x, hx, rfl, rfl, rfl, rfl⟩
  · exact ack_old m n c s pv k' w hR hP h1 hs64
  · exact ack_miss m n c s pv te ve k' w hR hP h1 h2 hs64 hE
  · exact ack_any m n pv k x w hR hP hk hx hdc hds

set_option maxRecDepth 100000 in
theorem act_ack_nil (m n c s : Nat) (pv : Value) (te : TypeId) (ve : Value) (k k' : Kp) (w : World) (hR : Row w m 0 k pv (.map none) 2) (hP : Pend w pv n k.waits) (hk : Cs.Sound k) (hs64 : s < 18446744073709551616)
    (hdc : k.dc < 18446744073709551615) (hds : k.ds < 18446744073709551615) (hE : w.cell? ⟨1, 0, none⟩ = some (.iface te ve)) (hA : AckAs k c s te ve k' .nilIface) :
    Calls Tryd.prog 17 #[.pointer (some ⟨m, 0, none⟩), .agg (ackRow c s)] w (DoPost m n k' pv .nilIface w) := by
  have hb0 : But (fun _ => False) w (w.alloc (.cells (ackRow c s) 37)) := (But.refl _ w).alloc _
  have h25 := ack_do m n c s pv te ve k k' .nilIface _ (hR.but hb0 (fun h => h)) (hP.but hb0 (no_far _ _)) hk hs64 hdc hds (past hE _) hA
  have HB := Lib.hid hb0
  clear hR hP hk hb0 hE hA
  unfold ackRow at h25 HB ⊢
  go_enter Tryd.func17, Tryd.ntmps17
  go_wp2_with fail
  refine h25.mono ?_
  rintro e w1 ⟨rfl, h1, h2, h3⟩
  have H := Lib.hid (And.intro h1 (And.intro h2 h3))
  clear h1 h2 h3 h25
  go_wp2_with fail
  go_ret
  obtain ⟨h1, h2, h3⟩ := H.out
  exact ⟨rfl, pv, h1, h2, (HB.out.mono (fun _ _ h => h.elim)).trans h3, fun b hb => Or.inl hb⟩
set_option maxRecDepth 100000 in
theorem act_ack_err (m n c s : Nat) (pv : Value) (te : TypeId) (ve : Value) (k k' : Kp) (w : World) (hR : Row w m 0 k pv (.map none) 2) (hP : Pend w pv n k.waits) (hk : Cs.Sound k) (hs64 : s < 18446744073709551616)
    (hdc : k.dc < 18446744073709551615) (hds : k.ds < 18446744073709551615) (hE : w.cell? ⟨1, 0, none⟩ = some (.iface te ve)) (hA : AckAs k c s te ve k' (.iface te ve)) :
    Calls Tryd.prog 17 #[.pointer (some ⟨m, 0, none⟩), .agg (ackRow c s)] w (DoPost m n k' pv (.iface te ve) w) := by
  have hb0 : But (fun _ => False) w (w.alloc (.cells (ackRow c s) 37)) := (But.refl _ w).alloc _
  have h25 := ack_do m n c s pv te ve k k' (.iface te ve) _ (hR.but hb0 (fun h => h)) (hP.but hb0 (no_far _ _)) hk hs64 hdc hds (past hE _) hA
  have HB := Lib.hid hb0
  clear hR hP hk hb0 hE hA
  unfold ackRow at h25 HB ⊢
  go_enter Tryd.func17, Tryd.ntmps17
  go_wp2_with fail
  refine h25.mono ?_
  rintro e w1 ⟨rfl, h1, h2, h3⟩
  have H := Lib.hid (And.intro h1 (And.intro h2 h3))
  clear h1 h2 h3 h25
  go_wp2_with fail
  go_ret
  obtain ⟨h1, h2, h3⟩ := H.out
  exact ⟨rfl, pv, h1, h2, (HB.out.mono (fun _ _ h => h.elim)).trans h3, fun b hb => Or.inl hb⟩
end Go.Proofs.YtchphfdoneckeaaDoor
