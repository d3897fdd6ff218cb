/-
  A piece of a mapping; the reference's mapRight. Printed by wip/py/gen_mr.py.
-/
import Derived.Test.YtocfcajafkkhdaaDoorZG3
namespace Go.Proofs.YtocfcajafkkhdaaDoor
open Go.RowKit

/-- a piece of a mapping -/
structure Pi where
  fn : Int
  at_ : Int
  n : Int
  word : ByteArray
  all : List Int
def Pi.v (p : Pi) (A : Option Addr) (c : Nat) : Value := .agg #[.int .i64 p.fn, .int .i64 p.at_, .int .i64 p.n, .string p.word, .slice A p.all.length c]
/-- a piece is few and short -/
structure Pi.Sm (p : Pi) : Prop where
  f0 : 0 ≤ p.fn
  f1 : p.fn ≤ 10
  al : p.all.length ≤ 5
  wl : p.word.size ≤ 20
/-- a piece is right beside so many wildcards -/
def Right (m : Nat) (p : Pi) : Prop :=
  (p.fn = 0 ∧ MW p.word.data.toList) ∨ (p.fn = 3 ∧ p.all ≠ [] ∧ p.all.length ≤ m ∧ (∀ k ∈ p.all, 1 ≤ k ∧ k ≤ (m : Int)) ∧ 1 ≤ p.n ∧ p.n ≤ 1000) ∨
  ((p.fn = 1 ∨ p.fn = 2) ∧ 1 ≤ p.at_ ∧ p.at_ ≤ (m : Int)) ∨ (p.fn = 4 ∧ (1 ≤ p.at_ ∧ p.at_ ≤ (m : Int)) ∧ ∃ b : UInt8, p.word.data.toList = [b] ∧ (b = 45 ∨ b = 95 ∨ b = 120)) ∨
  ((p.fn = 5 ∨ p.fn = 6 ∨ p.fn = 7 ∨ p.fn = 8 ∨ p.fn = 9 ∨ p.fn = 10) ∧ (1 ≤ p.at_ ∧ p.at_ ≤ (m : Int)) ∧ 1 ≤ p.n ∧ p.n ≤ 1000)
def BoolIf (P : Prop) (w : World) (e : Ending) (w' : World) : Prop := ∃ b : Bool, e = .returned (.bool b) ∧ Below w.heap.size w w' ∧ (b = true → P)
theorem BoolIf.no {P : Prop} {w w' : World} (h : Below w.heap.size w w') : BoolIf P w (.returned (.bool false)) w' := ⟨false, rfl, h, fun h => by cases h⟩
theorem BoolIf.yes {P : Prop} {w w' : World} (h : Below w.heap.size w w') (h2 : P) : BoolIf P w (.returned (.bool true)) w' := ⟨true, rfl, h, fun _ => h2⟩
set_option maxHeartbeats 8000000 in
set_option maxRecDepth 100000 in
theorem right_0 (at_ n : Int) (word : ByteArray) (all : List Int) (A : Option Addr) (c m : Nat) (w : World) (_hm : m ≤ 1000) (_ha : all.length ≤ 5) (hw : word.size ≤ 20) : Calls Tryd.prog 19 #[(⟨0, at_, n, word, all⟩ : Pi).v A c, .int .i64 m] w (BoolIf (Right m ⟨0, at_, n, word, all⟩) w) := by
  unfold Pi.v
  have hb : Below w.heap.size w (w.alloc (.cells #[.int .i64 0, .int .i64 at_, .int .i64 n, .string word, .slice A all.length c] 41)) := (Below.refl _ w).alloc (Nat.le_refl _) _
  have HB := Lib.hid hb
  clear hb
  have h18 := mapWord_any word (w.alloc (.cells #[.int .i64 0, .int .i64 at_, .int .i64 n, .string word, .slice A all.length c] 41)) (by omega)
  go_enter Tryd.func19, Tryd.ntmps19
  go_wp2_with fail
  refine h18.mono ?_
  rintro e w1 ⟨b, rfl, rfl, hb⟩
  have HB2 := Lib.hid hb
  clear h18 hb
  go_wp2_with fail
  go_ret
  exact ⟨b, rfl, HB.out, fun h => .inl ⟨rfl, HB2.out h⟩⟩
set_option maxHeartbeats 8000000 in
set_option maxRecDepth 100000 in
theorem right_1 (at_ n : Int) (word : ByteArray) (all : List Int) (A : Option Addr) (c m : Nat) (w : World) (_hm : m ≤ 1000) (_ha : all.length ≤ 5) (_hw : word.size ≤ 20) : Calls Tryd.prog 19 #[(⟨1, at_, n, word, all⟩ : Pi).v A c, .int .i64 m] w (BoolIf (Right m ⟨1, at_, n, word, all⟩) w) := by
  unfold Pi.v
  have hb : Below w.heap.size w (w.alloc (.cells #[.int .i64 1, .int .i64 at_, .int .i64 n, .string word, .slice A all.length c] 41)) := (Below.refl _ w).alloc (Nat.le_refl _) _
  have HB := Lib.hid hb
  clear hb
  by_cases h1 : at_ < 1
  · have d1 : decide (at_ < 1) = true := by rw [decide_eq_true_eq]; exact h1
    go_enter Tryd.func19, Tryd.ntmps19
    go_wp2_with fail
    go_ret
    exact BoolIf.no HB.out
  have d1 : decide (at_ < 1) = false := by rw [decide_eq_false_iff_not]; exact h1
  by_cases h2 : (m : Int) < at_
  · have d2 : decide ((m : Int) < at_) = true := by rw [decide_eq_true_eq]; exact h2
    go_enter Tryd.func19, Tryd.ntmps19
    go_wp2_with fail
    go_ret
    exact BoolIf.no HB.out
  have d2 : decide ((m : Int) < at_) = false := by rw [decide_eq_false_iff_not]; exact h2
  have HA := Lib.hid (show 1 ≤ at_ ∧ at_ ≤ (m : Int) from ⟨by omega, by omega⟩)
  go_enter Tryd.func19, Tryd.ntmps19
  go_wp2_with fail
  go_ret
  exact BoolIf.yes HB.out (.inr (.inr (.inl ⟨.inl rfl, HA.out⟩)))
set_option maxHeartbeats 8000000 in
set_option maxRecDepth 100000 in
theorem right_2 (at_ n : Int) (word : ByteArray) (all : List Int) (A : Option Addr) (c m : Nat) (w : World) (_hm : m ≤ 1000) (_ha : all.length ≤ 5) (_hw : word.size ≤ 20) : Calls Tryd.prog 19 #[(⟨2, at_, n, word, all⟩ : Pi).v A c, .int .i64 m] w (BoolIf (Right m ⟨2, at_, n, word, all⟩) w) := by
  unfold Pi.v
  have hb : Below w.heap.size w (w.alloc (.cells #[.int .i64 2, .int .i64 at_, .int .i64 n, .string word, .slice A all.length c] 41)) := (Below.refl _ w).alloc (Nat.le_refl _) _
  have HB := Lib.hid hb
  clear hb
  by_cases h1 : at_ < 1
  · have d1 : decide (at_ < 1) = true := by rw [decide_eq_true_eq]; exact h1
    go_enter Tryd.func19, Tryd.ntmps19
    go_wp2_with fail
    go_ret
    exact BoolIf.no HB.out
  have d1 : decide (at_ < 1) = false := by rw [decide_eq_false_iff_not]; exact h1
  by_cases h2 : (m : Int) < at_
  · have d2 : decide ((m : Int) < at_) = true := by rw [decide_eq_true_eq]; exact h2
    go_enter Tryd.func19, Tryd.ntmps19
    go_wp2_with fail
    go_ret
    exact BoolIf.no HB.out
  have d2 : decide ((m : Int) < at_) = false := by rw [decide_eq_false_iff_not]; exact h2
  have HA := Lib.hid (show 1 ≤ at_ ∧ at_ ≤ (m : Int) from ⟨by omega, by omega⟩)
  go_enter Tryd.func19, Tryd.ntmps19
  go_wp2_with fail
  go_ret
  exact BoolIf.yes HB.out (.inr (.inr (.inl ⟨.inr rfl, HA.out⟩)))
set_option maxHeartbeats 8000000 in
set_option maxRecDepth 100000 in
theorem right_4 (at_ n : Int) (word : ByteArray) (all : List Int) (A : Option Addr) (c m : Nat) (w : World) (_hm : m ≤ 1000) (_ha : all.length ≤ 5) (_hw : word.size ≤ 20) : Calls Tryd.prog 19 #[(⟨4, at_, n, word, all⟩ : Pi).v A c, .int .i64 m] w (BoolIf (Right m ⟨4, at_, n, word, all⟩) w) := by
  unfold Pi.v
  have hb : Below w.heap.size w (w.alloc (.cells #[.int .i64 4, .int .i64 at_, .int .i64 n, .string word, .slice A all.length c] 41)) := (Below.refl _ w).alloc (Nat.le_refl _) _
  have HB := Lib.hid hb
  clear hb
  by_cases h1 : at_ < 1
  · have d1 : decide (at_ < 1) = true := by rw [decide_eq_true_eq]; exact h1
    go_enter Tryd.func19, Tryd.ntmps19
    go_wp2_with fail
    go_ret
    exact BoolIf.no HB.out
  have d1 : decide (at_ < 1) = false := by rw [decide_eq_false_iff_not]; exact h1
  by_cases h2 : (m : Int) < at_
  · have d2 : decide ((m : Int) < at_) = true := by rw [decide_eq_true_eq]; exact h2
    go_enter Tryd.func19, Tryd.ntmps19
    go_wp2_with fail
    go_ret
    exact BoolIf.no HB.out
  have d2 : decide ((m : Int) < at_) = false := by rw [decide_eq_false_iff_not]; exact h2
  have HA := Lib.hid (show 1 ≤ at_ ∧ at_ ≤ (m : Int) from ⟨by omega, by omega⟩)
  by_cases w1 : word.data.toList = [45]
  · have b1 : (word.toList == [45]) = true := by rw [ByteArray.toList_eq, w1]; rfl
    have HW := Lib.hid w1
    clear w1
    go_enter Tryd.func19, Tryd.ntmps19
    go_wp2_with fail
    go_ret
    exact BoolIf.yes HB.out (.inr (.inr (.inr (.inl ⟨rfl, HA.out, 45, HW.out, .inl rfl⟩))))
  have b1 : (word.toList == [45]) = false := by rw [ByteArray.toList_eq, beq_eq_false_iff_ne]; exact w1
  by_cases w2 : word.data.toList = [95]
  · have b2 : (word.toList == [95]) = true := by rw [ByteArray.toList_eq, w2]; rfl
    have HW := Lib.hid w2
    clear w1 w2
    go_enter Tryd.func19, Tryd.ntmps19
    go_wp2_with fail
    go_ret
    exact BoolIf.yes HB.out (.inr (.inr (.inr (.inl ⟨rfl, HA.out, 95, HW.out, .inr (.inl rfl)⟩))))
  have b2 : (word.toList == [95]) = false := by rw [ByteArray.toList_eq, beq_eq_false_iff_ne]; exact w2
  by_cases w3 : word.data.toList = [120]
  · have b3 : (word.toList == [120]) = true := by rw [ByteArray.toList_eq, w3]; rfl
    have HW := Lib.hid w3
    clear w1 w2 w3
    go_enter Tryd.func19, Tryd.ntmps19
    go_wp2_with fail
    go_ret
    exact BoolIf.yes HB.out (.inr (.inr (.inr (.inl ⟨rfl, HA.out, 120, HW.out, .inr (.inr rfl)⟩))))
  have b3 : (word.toList == [120]) = false := by rw [ByteArray.toList_eq, beq_eq_false_iff_ne]; exact w3
  clear w1 w2 w3
  go_enter Tryd.func19, Tryd.ntmps19
  go_wp2_with fail
  go_ret
  exact BoolIf.no HB.out
set_option maxHeartbeats 8000000 in
set_option maxRecDepth 100000 in
theorem right_5 (at_ n : Int) (word : ByteArray) (all : List Int) (A : Option Addr) (c m : Nat) (w : World) (_hm : m ≤ 1000) (_ha : all.length ≤ 5) (_hw : word.size ≤ 20) : Calls Tryd.prog 19 #[(⟨5, at_, n, word, all⟩ : Pi).v A c, .int .i64 m] w (BoolIf (Right m ⟨5, at_, n, word, all⟩) w) := by
  unfold Pi.v
  have hb : Below w.heap.size w (w.alloc (.cells #[.int .i64 5, .int .i64 at_, .int .i64 n, .string word, .slice A all.length c] 41)) := (Below.refl _ w).alloc (Nat.le_refl _) _
  have HB := Lib.hid hb
  clear hb
  by_cases h1 : at_ < 1
  · have d1 : decide (at_ < 1) = true := by rw [decide_eq_true_eq]; exact h1
    go_enter Tryd.func19, Tryd.ntmps19
    go_wp2_with fail
    go_ret
    exact BoolIf.no HB.out
  have d1 : decide (at_ < 1) = false := by rw [decide_eq_false_iff_not]; exact h1
  by_cases h2 : (m : Int) < at_
  · have d2 : decide ((m : Int) < at_) = true := by rw [decide_eq_true_eq]; exact h2
    go_enter Tryd.func19, Tryd.ntmps19
    go_wp2_with fail
    go_ret
    exact BoolIf.no HB.out
  have d2 : decide ((m : Int) < at_) = false := by rw [decide_eq_false_iff_not]; exact h2
  have HA := Lib.hid (show 1 ≤ at_ ∧ at_ ≤ (m : Int) from ⟨by omega, by omega⟩)
  by_cases n1 : 1 ≤ n
  · have e1 : decide (1 ≤ n) = true := by rw [decide_eq_true_eq]; exact n1
    by_cases n2 : n ≤ 1000
    · have e2 : decide (n ≤ 1000) = true := by rw [decide_eq_true_eq]; exact n2
      have HN := Lib.hid (And.intro n1 n2)
      clear n1 n2
      go_enter Tryd.func19, Tryd.ntmps19
      go_wp2_with fail
      go_ret
      exact BoolIf.yes HB.out (.inr (.inr (.inr (.inr ⟨.inl rfl, HA.out, HN.out⟩))))
    · have e2 : decide (n ≤ 1000) = false := by rw [decide_eq_false_iff_not]; exact n2
      clear n1 n2
      go_enter Tryd.func19, Tryd.ntmps19
      go_wp2_with fail
      go_ret
      exact BoolIf.no HB.out
  · have e1 : decide (1 ≤ n) = false := by rw [decide_eq_false_iff_not]; exact n1
    clear n1
    go_enter Tryd.func19, Tryd.ntmps19
    go_wp2_with fail
    go_ret
    exact BoolIf.no HB.out
set_option maxHeartbeats 8000000 in
set_option maxRecDepth 100000 in
theorem right_6 (at_ n : Int) (word : ByteArray) (all : List Int) (A : Option Addr) (c m : Nat) (w : World) (_hm : m ≤ 1000) (_ha : all.length ≤ 5) (_hw : word.size ≤ 20) : Calls Tryd.prog 19 #[(⟨6, at_, n, word, all⟩ : Pi).v A c, .int .i64 m] w (BoolIf (Right m ⟨6, at_, n, word, all⟩) w) := by
  unfold Pi.v
  have hb : Below w.heap.size w (w.alloc (.cells #[.int .i64 6, .int .i64 at_, .int .i64 n, .string word, .slice A all.length c] 41)) := (Below.refl _ w).alloc (Nat.le_refl _) _
  have HB := Lib.hid hb
  clear hb
  by_cases h1 : at_ < 1
  · have d1 : decide (at_ < 1) = true := by rw [decide_eq_true_eq]; exact h1
    go_enter Tryd.func19, Tryd.ntmps19
    go_wp2_with fail
    go_ret
    exact BoolIf.no HB.out
  have d1 : decide (at_ < 1) = false := by rw [decide_eq_false_iff_not]; exact h1
  by_cases h2 : (m : Int) < at_
  · have d2 : decide ((m : Int) < at_) = true := by rw [decide_eq_true_eq]; exact h2
    go_enter Tryd.func19, Tryd.ntmps19
    go_wp2_with fail
    go_ret
    exact BoolIf.no HB.out
  have d2 : decide ((m : Int) < at_) = false := by rw [decide_eq_false_iff_not]; exact h2
  have HA := Lib.hid (show 1 ≤ at_ ∧ at_ ≤ (m : Int) from ⟨by omega, by omega⟩)
  by_cases n1 : 1 ≤ n
  · have e1 : decide (1 ≤ n) = true := by rw [decide_eq_true_eq]; exact n1
    by_cases n2 : n ≤ 1000
    · have e2 : decide (n ≤ 1000) = true := by rw [decide_eq_true_eq]; exact n2
      have HN := Lib.hid (And.intro n1 n2)
      clear n1 n2
      go_enter Tryd.func19, Tryd.ntmps19
      go_wp2_with fail
      go_ret
      exact BoolIf.yes HB.out (.inr (.inr (.inr (.inr ⟨.inr (.inl rfl), HA.out, HN.out⟩))))
    · have e2 : decide (n ≤ 1000) = false := by rw [decide_eq_false_iff_not]; exact n2
      clear n1 n2
      go_enter Tryd.func19, Tryd.ntmps19
      go_wp2_with fail
      go_ret
      exact BoolIf.no HB.out
  · have e1 : decide (1 ≤ n) = false := by rw [decide_eq_false_iff_not]; exact n1
    clear n1
    go_enter Tryd.func19, Tryd.ntmps19
    go_wp2_with fail
    go_ret
    exact BoolIf.no HB.out
set_option maxHeartbeats 8000000 in
set_option maxRecDepth 100000 in
theorem right_7 (at_ n : Int) (word : ByteArray) (all : List Int) (A : Option Addr) (c m : Nat) (w : World) (_hm : m ≤ 1000) (_ha : all.length ≤ 5) (_hw : word.size ≤ 20) : Calls Tryd.prog 19 #[(⟨7, at_, n, word, all⟩ : Pi).v A c, .int .i64 m] w (BoolIf (Right m ⟨7, at_, n, word, all⟩) w) := by
  unfold Pi.v
  have hb : Below w.heap.size w (w.alloc (.cells #[.int .i64 7, .int .i64 at_, .int .i64 n, .string word, .slice A all.length c] 41)) := (Below.refl _ w).alloc (Nat.le_refl _) _
  have HB := Lib.hid hb
  clear hb
  by_cases h1 : at_ < 1
  · have d1 : decide (at_ < 1) = true := by rw [decide_eq_true_eq]; exact h1
    go_enter Tryd.func19, Tryd.ntmps19
    go_wp2_with fail
    go_ret
    exact BoolIf.no HB.out
  have d1 : decide (at_ < 1) = false := by rw [decide_eq_false_iff_not]; exact h1
  by_cases h2 : (m : Int) < at_
  · have d2 : decide ((m : Int) < at_) = true := by rw [decide_eq_true_eq]; exact h2
    go_enter Tryd.func19, Tryd.ntmps19
    go_wp2_with fail
    go_ret
    exact BoolIf.no HB.out
  have d2 : decide ((m : Int) < at_) = false := by rw [decide_eq_false_iff_not]; exact h2
  have HA := Lib.hid (show 1 ≤ at_ ∧ at_ ≤ (m : Int) from ⟨by omega, by omega⟩)
  by_cases n1 : 1 ≤ n
  · have e1 : decide (1 ≤ n) = true := by rw [decide_eq_true_eq]; exact n1
    by_cases n2 : n ≤ 1000
    · have e2 : decide (n ≤ 1000) = true := by rw [decide_eq_true_eq]; exact n2
      have HN := Lib.hid (And.intro n1 n2)
      clear n1 n2
      go_enter Tryd.func19, Tryd.ntmps19
      go_wp2_with fail
      go_ret
      exact BoolIf.yes HB.out (.inr (.inr (.inr (.inr ⟨.inr (.inr (.inl rfl)), HA.out, HN.out⟩))))
    · have e2 : decide (n ≤ 1000) = false := by rw [decide_eq_false_iff_not]; exact n2
      clear n1 n2
      go_enter Tryd.func19, Tryd.ntmps19
      go_wp2_with fail
      go_ret
      exact BoolIf.no HB.out
  · have e1 : decide (1 ≤ n) = false := by rw [decide_eq_false_iff_not]; exact n1
    clear n1
    go_enter Tryd.func19, Tryd.ntmps19
    go_wp2_with fail
    go_ret
    exact BoolIf.no HB.out
set_option maxHeartbeats 8000000 in
set_option maxRecDepth 100000 in
theorem right_8 (at_ n : Int) (word : ByteArray) (all : List Int) (A : Option Addr) (c m : Nat) (w : World) (_hm : m ≤ 1000) (_ha : all.length ≤ 5) (_hw : word.size ≤ 20) : Calls Tryd.prog 19 #[(⟨8, at_, n, word, all⟩ : Pi).v A c, .int .i64 m] w (BoolIf (Right m ⟨8, at_, n, word, all⟩) w) := by
  unfold Pi.v
  have hb : Below w.heap.size w (w.alloc (.cells #[.int .i64 8, .int .i64 at_, .int .i64 n, .string word, .slice A all.length c] 41)) := (Below.refl _ w).alloc (Nat.le_refl _) _
  have HB := Lib.hid hb
  clear hb
  by_cases h1 : at_ < 1
  · have d1 : decide (at_ < 1) = true := by rw [decide_eq_true_eq]; exact h1
    go_enter Tryd.func19, Tryd.ntmps19
    go_wp2_with fail
    go_ret
    exact BoolIf.no HB.out
  have d1 : decide (at_ < 1) = false := by rw [decide_eq_false_iff_not]; exact h1
  by_cases h2 : (m : Int) < at_
  · have d2 : decide ((m : Int) < at_) = true := by rw [decide_eq_true_eq]; exact h2
    go_enter Tryd.func19, Tryd.ntmps19
    go_wp2_with fail
    go_ret
    exact BoolIf.no HB.out
  have d2 : decide ((m : Int) < at_) = false := by rw [decide_eq_false_iff_not]; exact h2
  have HA := Lib.hid (show 1 ≤ at_ ∧ at_ ≤ (m : Int) from ⟨by omega, by omega⟩)
  by_cases n1 : 1 ≤ n
  · have e1 : decide (1 ≤ n) = true := by rw [decide_eq_true_eq]; exact n1
    by_cases n2 : n ≤ 1000
    · have e2 : decide (n ≤ 1000) = true := by rw [decide_eq_true_eq]; exact n2
      have HN := Lib.hid (And.intro n1 n2)
      clear n1 n2
      go_enter Tryd.func19, Tryd.ntmps19
      go_wp2_with fail
      go_ret
      exact BoolIf.yes HB.out (.inr (.inr (.inr (.inr ⟨.inr (.inr (.inr (.inl rfl))), HA.out, HN.out⟩))))
    · have e2 : decide (n ≤ 1000) = false := by rw [decide_eq_false_iff_not]; exact n2
      clear n1 n2
      go_enter Tryd.func19, Tryd.ntmps19
      go_wp2_with fail
      go_ret
      exact BoolIf.no HB.out
  · have e1 : decide (1 ≤ n) = false := by rw [decide_eq_false_iff_not]; exact n1
    clear n1
    go_enter Tryd.func19, Tryd.ntmps19
    go_wp2_with fail
    go_ret
    exact BoolIf.no HB.out
set_option maxHeartbeats 8000000 in
set_option maxRecDepth 100000 in
theorem right_9 (at_ n : Int) (word : ByteArray) (all : List Int) (A : Option Addr) (c m : Nat) (w : World) (_hm : m ≤ 1000) (_ha : all.length ≤ 5) (_hw : word.size ≤ 20) : Calls Tryd.prog 19 #[(⟨9, at_, n, word, all⟩ : Pi).v A c, .int .i64 m] w (BoolIf (Right m ⟨9, at_, n, word, all⟩) w) := by
  unfold Pi.v
  have hb : Below w.heap.size w (w.alloc (.cells #[.int .i64 9, .int .i64 at_, .int .i64 n, .string word, .slice A all.length c] 41)) := (Below.refl _ w).alloc (Nat.le_refl _) _
  have HB := Lib.hid hb
  clear hb
  by_cases h1 : at_ < 1
  · have d1 : decide (at_ < 1) = true := by rw [decide_eq_true_eq]; exact h1
    go_enter Tryd.func19, Tryd.ntmps19
    go_wp2_with fail
    go_ret
    exact BoolIf.no HB.out
  have d1 : decide (at_ < 1) = false := by rw [decide_eq_false_iff_not]; exact h1
  by_cases h2 : (m : Int) < at_
  · have d2 : decide ((m : Int) < at_) = true := by rw [decide_eq_true_eq]; exact h2
    go_enter Tryd.func19, Tryd.ntmps19
    go_wp2_with fail
    go_ret
    exact BoolIf.no HB.out
  have d2 : decide ((m : Int) < at_) = false := by rw [decide_eq_false_iff_not]; exact h2
  have HA := Lib.hid (show 1 ≤ at_ ∧ at_ ≤ (m : Int) from ⟨by omega, by omega⟩)
  by_cases n1 : 1 ≤ n
  · have e1 : decide (1 ≤ n) = true := by rw [decide_eq_true_eq]; exact n1
    by_cases n2 : n ≤ 1000
    · have e2 : decide (n ≤ 1000) = true := by rw [decide_eq_true_eq]; exact n2
      have HN := Lib.hid (And.intro n1 n2)
      clear n1 n2
      go_enter Tryd.func19, Tryd.ntmps19
      go_wp2_with fail
      go_ret
      exact BoolIf.yes HB.out (.inr (.inr (.inr (.inr ⟨.inr (.inr (.inr (.inr (.inl rfl)))), HA.out, HN.out⟩))))
    · have e2 : decide (n ≤ 1000) = false := by rw [decide_eq_false_iff_not]; exact n2
      clear n1 n2
      go_enter Tryd.func19, Tryd.ntmps19
      go_wp2_with fail
      go_ret
      exact BoolIf.no HB.out
  · have e1 : decide (1 ≤ n) = false := by rw [decide_eq_false_iff_not]; exact n1
    clear n1
    go_enter Tryd.func19, Tryd.ntmps19
    go_wp2_with fail
    go_ret
    exact BoolIf.no HB.out
set_option maxHeartbeats 8000000 in
set_option maxRecDepth 100000 in
theorem right_10 (at_ n : Int) (word : ByteArray) (all : List Int) (A : Option Addr) (c m : Nat) (w : World) (_hm : m ≤ 1000) (_ha : all.length ≤ 5) (_hw : word.size ≤ 20) : Calls Tryd.prog 19 #[(⟨10, at_, n, word, all⟩ : Pi).v A c, .int .i64 m] w (BoolIf (Right m ⟨10, at_, n, word, all⟩) w) := by
  unfold Pi.v
  have hb : Below w.heap.size w (w.alloc (.cells #[.int .i64 10, .int .i64 at_, .int .i64 n, .string word, .slice A all.length c] 41)) := (Below.refl _ w).alloc (Nat.le_refl _) _
  have HB := Lib.hid hb
  clear hb
  by_cases h1 : at_ < 1
  · have d1 : decide (at_ < 1) = true := by rw [decide_eq_true_eq]; exact h1
    go_enter Tryd.func19, Tryd.ntmps19
    go_wp2_with fail
    go_ret
    exact BoolIf.no HB.out
  have d1 : decide (at_ < 1) = false := by rw [decide_eq_false_iff_not]; exact h1
  by_cases h2 : (m : Int) < at_
  · have d2 : decide ((m : Int) < at_) = true := by rw [decide_eq_true_eq]; exact h2
    go_enter Tryd.func19, Tryd.ntmps19
    go_wp2_with fail
    go_ret
    exact BoolIf.no HB.out
  have d2 : decide ((m : Int) < at_) = false := by rw [decide_eq_false_iff_not]; exact h2
  have HA := Lib.hid (show 1 ≤ at_ ∧ at_ ≤ (m : Int) from ⟨by omega, by omega⟩)
  by_cases n1 : 1 ≤ n
  · have e1 : decide (1 ≤ n) = true := by rw [decide_eq_true_eq]; exact n1
    by_cases n2 : n ≤ 1000
    · have e2 : decide (n ≤ 1000) = true := by rw [decide_eq_true_eq]; exact n2
      have HN := Lib.hid (And.intro n1 n2)
      clear n1 n2
      go_enter Tryd.func19, Tryd.ntmps19
      go_wp2_with fail
      go_ret
      exact BoolIf.yes HB.out (.inr (.inr (.inr (.inr ⟨.inr (.inr (.inr (.inr (.inr (rfl))))), HA.out, HN.out⟩))))
    · have e2 : decide (n ≤ 1000) = false := by rw [decide_eq_false_iff_not]; exact n2
      clear n1 n2
      go_enter Tryd.func19, Tryd.ntmps19
      go_wp2_with fail
      go_ret
      exact BoolIf.no HB.out
  · have e1 : decide (1 ≤ n) = false := by rw [decide_eq_false_iff_not]; exact n1
    clear n1
    go_enter Tryd.func19, Tryd.ntmps19
    go_wp2_with fail
    go_ret
    exact BoolIf.no HB.out
set_option maxHeartbeats 8000000 in
set_option maxRecDepth 100000 in
theorem right_3 (at_ n : Int) (word : ByteArray) (all : List Int) (A : Option Addr) (c m : Nat) (w : World) (_hm : m ≤ 1000) (ha : all.length ≤ 5) (_hw : word.size ≤ 20) (hL : K.Lies w A all.length (K.nums .i64 all)) : Calls Tryd.prog 19 #[(⟨3, at_, n, word, all⟩ : Pi).v A c, .int .i64 m] w (BoolIf (Right m ⟨3, at_, n, word, all⟩) w) := by
  unfold Pi.v
  have hb : Below w.heap.size w (w.alloc (.cells #[.int .i64 3, .int .i64 at_, .int .i64 n, .string word, .slice A all.length c] 41)) := (Below.refl _ w).alloc (Nat.le_refl _) _
  have HB := Lib.hid hb
  clear hb
  have hL2 := hL.below HB.out (Nat.le_refl _)
  have HL := Lib.hid hL2
  have hbk := K.heap_alloc_at w (.cells #[.int .i64 3, .int .i64 at_, .int .i64 n, .string word, .slice A all.length c] 41)
  have c2 : (w.alloc (.cells #[.int .i64 3, .int .i64 at_, .int .i64 n, .string word, .slice A all.length c] 41)).cell? ⟨w.heap.size, 2, none⟩ = some (.int .i64 n) := by rw [Lib.cell_of_heap hbk]; rfl
  have c4 : (w.alloc (.cells #[.int .i64 3, .int .i64 at_, .int .i64 n, .string word, .slice A all.length c] 41)).cell? ⟨w.heap.size, 4, none⟩ = some (.slice A all.length c) := by rw [Lib.cell_of_heap hbk]; rfl
  clear hL hL2 hbk
  go_enter Tryd.func19, Tryd.ntmps19
  go_upto_region 7 with (fail)
  generalize w.alloc (.cells #[.int .i64 3, .int .i64 at_, .int .i64 n, .string word, .slice A all.length c] 41) = wb at HB HL c2 c4 ⊢
  go_loop [22] (fun i => ∃ k : Nat, k ≤ all.length ∧ i = .int .i64 k ∧ Hid (∀ z ∈ all.take k, 1 ≤ z ∧ z ≤ (m : Int))) (fun i => all.length - (intOf i).toNat)
  case atStart => exact ⟨0, by omega, rfl, Lib.hid (fun z hz => by simp at hz)⟩
  case round =>
    obtain ⟨k, hk, rfl, HZ⟩ := hrel
    by_cases hlt : k < all.length
    · obtain ⟨ab, ao, rfl, hab, hcs⟩ := HL.out (by omega)
      have cz : wb.cell? ⟨ab, ao + k, none⟩ = some (.int .i64 (all.getD k 0)) := hcs k hlt
      have htk : all.take (k + 1) = all.take k ++ [all.getD k 0] := by
        rw [List.take_succ_eq_append_getElem hlt]
        simp [List.getD, hlt]
      have HT := Lib.hid htk
      clear hcs htk
      generalize all.getD k 0 = z at cz HT
      by_cases h1 : z < 1
      · have d1 : decide (z < 1) = true := by rw [decide_eq_true_eq]; exact h1
        go_wp2_with fail
        go_ret
        exact BoolIf.no HB.out
      · have d1 : decide (z < 1) = false := by rw [decide_eq_false_iff_not]; exact h1
        by_cases h2 : (m : Int) < z
        · have d2 : decide ((m : Int) < z) = true := by rw [decide_eq_true_eq]; exact h2
          go_wp2_with fail
          go_ret
          exact BoolIf.no HB.out
        · have d2 : decide ((m : Int) < z) = false := by rw [decide_eq_false_iff_not]; exact h2
          have HZ2 := Lib.hid (show ∀ u ∈ all.take (k + 1), 1 ≤ u ∧ u ≤ (m : Int) from fun u hu => by
            rw [HT.out] at hu
            rcases List.mem_append.1 hu with hu | hu
            · exact HZ.out u hu
            · obtain rfl : u = z := by simpa using hu
              exact ⟨by omega, by omega⟩)
          go_wp2_with fail
          go_round
          case rel => exact ⟨k + 1, by omega, by go_num, HZ2⟩
          case measure => simp [intOf]; omega
    · obtain rfl : k = all.length := by omega
      have hall := HZ.out
      rw [List.take_length] at hall
      have HALL := Lib.hid hall
      clear hall HZ
      by_cases n1 : 1 ≤ n
      · have e1 : decide (1 ≤ n) = true := by rw [decide_eq_true_eq]; exact n1
        by_cases n2 : n ≤ 1000
        · have e2 : decide (n ≤ 1000) = true := by rw [decide_eq_true_eq]; exact n2
          have HN := Lib.hid (And.intro n1 n2)
          clear n1 n2
          by_cases z1 : 0 < all.length
          · have e3 : decide ((0 : Int) < (all.length : Int)) = true := by rw [decide_eq_true_eq]; omega
            by_cases z2 : all.length ≤ m
            · have e4 : decide ((all.length : Int) ≤ (m : Int)) = true := by rw [decide_eq_true_eq]; omega
              go_wp2_with fail
              go_ret
              exact BoolIf.yes HB.out (.inr (.inl ⟨rfl, List.length_pos_iff.1 z1, z2, HALL.out, HN.out⟩))
            · have e4 : decide ((all.length : Int) ≤ (m : Int)) = false := by rw [decide_eq_false_iff_not]; omega
              go_wp2_with fail
              go_ret
              exact BoolIf.no HB.out
          · have e3 : decide ((0 : Int) < (all.length : Int)) = false := by rw [decide_eq_false_iff_not]; omega
            go_wp2_with fail
            go_ret
            exact BoolIf.no HB.out
        · have e2 : decide (n ≤ 1000) = false := by rw [decide_eq_false_iff_not]; exact n2
          clear n1 n2
          go_wp2_with fail
          go_ret
          exact BoolIf.no HB.out
      · have e1 : decide (1 ≤ n) = false := by rw [decide_eq_false_iff_not]; exact n1
        clear n1
        go_wp2_with fail
        go_ret
        exact BoolIf.no HB.out
theorem mapRight_any (p : Pi) (A : Option Addr) (c m : Nat) (w : World) (hm : m ≤ 1000) (hp : p.Sm) (hL : K.Lies w A p.all.length (K.nums .i64 p.all)) : Calls Tryd.prog 19 #[p.v A c, .int .i64 m] w (BoolIf (Right m p) w) := by
  obtain ⟨fn, at_, n, word, all⟩ := p
  obtain ⟨f0, f1, al, wl⟩ := hp
  simp only at f0 f1 al wl hL
  have hf : fn = 0 ∨ fn = 1 ∨ fn = 2 ∨ fn = 3 ∨ fn = 4 ∨ fn = 5 ∨ fn = 6 ∨ fn = 7 ∨ fn = 8 ∨ fn = 9 ∨ fn = 10 := by omega
  rcases hf with rfl | rfl | rfl | rfl | rfl | rfl | rfl | rfl | rfl | rfl | rfl
  · exact right_0 at_ n word all A c m w hm al wl
  · exact right_1 at_ n word all A c m w hm al wl
  · exact right_2 at_ n word all A c m w hm al wl
  · exact right_3 at_ n word all A c m w hm al wl hL
  · exact right_4 at_ n word all A c m w hm al wl
  · exact right_5 at_ n word all A c m w hm al wl
  · exact right_6 at_ n word all A c m w hm al wl
  · exact right_7 at_ n word all A c m w hm al wl
  · exact right_8 at_ n word all A c m w hm al wl
  · exact right_9 at_ n word all A c m w hm al wl
  · exact right_10 at_ n word all A c m w hm al wl
end Go.Proofs.YtocfcajafkkhdaaDoor
