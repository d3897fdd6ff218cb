/-
  dnSame and dnHas of the reference: by keys.
-/
import Derived.Test.YtnjjhklefamaoaaDoorLow
import Derived.BigQuiet
import Derived.Outline
namespace Go.Proofs.YtnjjhklefamaoaaDoor
open Go.RowKit
open Dn (Attr Name)

def StrPost (L : ByteArray) (w : World) (e : Ending) (w' : World) : Prop := e = .returned (.string L) ∧ Below w.heap.size w w'
def BoolIs (b : Bool) (w : World) (e : Ending) (w' : World) : Prop := e = .returned (.bool b) ∧ Below w.heap.size w w'
theorem quiet_of_str {P : Program} {f : FuncId} {args : Array Value} {L : ByteArray} {W w : World} (hw : K.Grew W w) (h : Calls P f args w (StrPost L w)) : Calls P f args w (fun e w' => e = .returned (.string L) ∧ K.Grew W w') :=
  h.mono fun _ _ ⟨he, hb⟩ => ⟨he, hw.then hb⟩
theorem quiet_of_bool {P : Program} {f : FuncId} {args : Array Value} {b : Bool} {W w : World} (hw : K.Grew W w) (h : Calls P f args w (BoolIs b w)) : Calls P f args w (fun e w' => e = .returned (.bool b) ∧ K.Grew W w') :=
  h.mono fun _ _ ⟨he, hb⟩ => ⟨he, hw.then hb⟩

set_option maxHeartbeats 2000000 in
set_option maxRecDepth 100000 in
theorem same_false (p q r s L M : ByteArray) (w : World) (hp : ∀ w, Calls Tryd.prog 51 #[.string p] w (StrPost L w)) (hr : ∀ w, Calls Tryd.prog 51 #[.string r] w (StrPost M w)) (hLM : (L.toList == M.toList) = false) :
    Calls Tryd.prog 48 #[.agg #[.string p, .string q], .agg #[.string r, .string s]] w (BoolIs false w) := by
  have c0 : ((w.alloc (.cells #[.string p, .string q] 32)).alloc (.cells #[.string r, .string s] 32)).cell? ⟨w.heap.size, 0, none⟩ = some (.string p) := by go_simp
  have c1 : ((w.alloc (.cells #[.string p, .string q] 32)).alloc (.cells #[.string r, .string s] 32)).cell? ⟨w.heap.size, 1, none⟩ = some (.string q) := by go_simp
  have c2 : ((w.alloc (.cells #[.string p, .string q] 32)).alloc (.cells #[.string r, .string s] 32)).cell? ⟨w.heap.size + 1, 0, none⟩ = some (.string r) := by go_simp
  have c3 : ((w.alloc (.cells #[.string p, .string q] 32)).alloc (.cells #[.string r, .string s] 32)).cell? ⟨w.heap.size + 1, 1, none⟩ = some (.string s) := by go_simp
  have HB : K.Grew w ((w.alloc (.cells #[.string p, .string q] 32)).alloc (.cells #[.string r, .string s] 32)) := ((Below.refl _ w).alloc (Nat.le_refl _) _).alloc (by simp) _
  go_enter Tryd.func48, Tryd.ntmps48
  go_wp2_with fail
  generalize (w.alloc (.cells #[.string p, .string q] 32)).alloc (.cells #[.string r, .string s] 32) = W at *
  refine K.wp_region_grew (by kernel_rfl) (by kernel_rfl) ?_
  repeat (first
    | go_big_quiet_skip
    | (go_big_quiet_want; go_big_quiet_op; go_big_quiet_on)
    | (go_big_quiet_want; go_big_quiet_op; refine ⟨_, fun _ _ => rfl, ?_⟩; go_big_quiet_on)
    | (go_big_quiet_want; refine K.quiet_cell (v := ?_) ?_ _ _ rfl rfl ?_ ?_
       rotate_left
       · assumption
       · (intro w hw; go_simp)
       simp only [Act.put, List.setIfInBounds_toArray, List.set_cons_zero, List.set_cons_succ]
       go_big_quiet_on)
    | (go_big_quiet_want; go_big_quiet_op; apply Exists.intro
       refine ⟨fun w hw => ?_, ?_⟩
       · first | with_reducible exact quiet_of_str hw (hp _) | with_reducible exact quiet_of_str hw (hr _)
       go_big_quiet_on))
  refine wpQuiet_nil ?_
  intro w' hw'
  go_wp2_with fail
  go_ret
  exact ⟨rfl, HB.then hw'⟩

set_option maxHeartbeats 2000000 in
set_option maxRecDepth 100000 in
theorem same_true (p q r s L M : ByteArray) (w : World) (hp : ∀ w, Calls Tryd.prog 51 #[.string p] w (StrPost L w)) (hr : ∀ w, Calls Tryd.prog 51 #[.string r] w (StrPost M w)) (hLM : (L.toList == M.toList) = true) :
    Calls Tryd.prog 48 #[.agg #[.string p, .string q], .agg #[.string r, .string s]] w (BoolIs (q.toList == s.toList) w) := by
  have c0 : ((w.alloc (.cells #[.string p, .string q] 32)).alloc (.cells #[.string r, .string s] 32)).cell? ⟨w.heap.size, 0, none⟩ = some (.string p) := by go_simp
  have c1 : ((w.alloc (.cells #[.string p, .string q] 32)).alloc (.cells #[.string r, .string s] 32)).cell? ⟨w.heap.size, 1, none⟩ = some (.string q) := by go_simp
  have c2 : ((w.alloc (.cells #[.string p, .string q] 32)).alloc (.cells #[.string r, .string s] 32)).cell? ⟨w.heap.size + 1, 0, none⟩ = some (.string r) := by go_simp
  have c3 : ((w.alloc (.cells #[.string p, .string q] 32)).alloc (.cells #[.string r, .string s] 32)).cell? ⟨w.heap.size + 1, 1, none⟩ = some (.string s) := by go_simp
  have HB : K.Grew w ((w.alloc (.cells #[.string p, .string q] 32)).alloc (.cells #[.string r, .string s] 32)) := ((Below.refl _ w).alloc (Nat.le_refl _) _).alloc (by simp) _
  go_enter Tryd.func48, Tryd.ntmps48
  go_wp2_with fail
  generalize (w.alloc (.cells #[.string p, .string q] 32)).alloc (.cells #[.string r, .string s] 32) = W at *
  refine K.wp_region_grew (by kernel_rfl) (by kernel_rfl) ?_
  repeat (first
    | go_big_quiet_skip
    | (go_big_quiet_want; go_big_quiet_op; go_big_quiet_on)
    | (go_big_quiet_want; go_big_quiet_op; refine ⟨_, fun _ _ => rfl, ?_⟩; go_big_quiet_on)
    | (go_big_quiet_want; refine K.quiet_cell (v := ?_) ?_ _ _ rfl rfl ?_ ?_
       rotate_left
       · assumption
       · (intro w hw; go_simp)
       simp only [Act.put, List.setIfInBounds_toArray, List.set_cons_zero, List.set_cons_succ]
       go_big_quiet_on)
    | (go_big_quiet_want; go_big_quiet_op; apply Exists.intro
       refine ⟨fun w hw => ?_, ?_⟩
       · first | with_reducible exact quiet_of_str hw (hp _) | with_reducible exact quiet_of_str hw (hr _)
       go_big_quiet_on))
  refine wpQuiet_nil ?_
  intro w' hw'
  go_wp2_with fail
  go_ret
  exact ⟨rfl, HB.then hw'⟩

theorem toList_eq (s : ByteArray) : s.toList = s.data.toList := ByteArray.toList_eq s
theorem beq_lists (a b : ByteArray) : (a.toList == b.toList) = decide (a = b) := by
  rw [toList_eq, toList_eq, Bool.eq_iff_iff]
  simp only [beq_iff_eq, decide_eq_true_eq]
  exact ⟨fun h => ByteArray.ext (Array.ext' h), fun h => by rw [h]⟩
theorem dnSame_any (a b : Attr) (w : World) (ha : a.1.size ≤ 1000000) (hb : b.1.size ≤ 1000000) :
    Calls Tryd.prog 48 #[.agg #[.string a.1, .string a.2], .agg #[.string b.1, .string b.2]] w (BoolIs (Dn.same a b) w) := by
  by_cases h : Dn.lows a.1 = Dn.lows b.1
  · have e : Dn.same a b = (a.2.toList == b.2.toList) := by
      rw [beq_lists]; unfold Dn.same Dn.key; simp [h]
    rw [e]
    exact same_true a.1 a.2 b.1 b.2 _ _ w (fun w => dnLower_any a.1 w ha) (fun w => dnLower_any b.1 w hb) (by rw [h]; simp)
  · have e : Dn.same a b = false := by unfold Dn.same Dn.key; simp [h]
    rw [e]
    exact same_false a.1 a.2 b.1 b.2 _ _ w (fun w => dnLower_any a.1 w ha) (fun w => dnLower_any b.1 w hb) (by rw [beq_lists]; simp [h])
end Go.Proofs.YtnjjhklefamaoaaDoor
