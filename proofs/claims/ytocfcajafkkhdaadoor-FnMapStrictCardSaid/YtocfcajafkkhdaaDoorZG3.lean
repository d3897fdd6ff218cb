/-
  The reference's mapWord.
  The reference's mapSplit.
  The reference's mapSource.
-/
import Derived.Test.YtocfcajafkkhdaaDoorZG2
/- Wo -/
section
namespace Go.Proofs.YtocfcajafkkhdaaDoor
open Go.RowKit

/-- a letter, a digit, a hyphen or an underscore -/
def wc (x : UInt8) : Prop := x.toNat = 45 ∨ (48 ≤ x.toNat ∧ x.toNat ≤ 57) ∨ (65 ≤ x.toNat ∧ x.toNat ≤ 90) ∨ x.toNat = 95 ∨ (97 ≤ x.toNat ∧ x.toNat ≤ 122)
/-- a word of a mapping -/
def MW (t : List UInt8) : Prop := t ≠ [] ∧ ∀ x ∈ t, wc x
theorem K.SomeBool.no {P : Prop} {w : World} : K.SomeBool P w (.returned (.bool false)) w := ⟨false, rfl, rfl, fun h => by cases h⟩
set_option maxHeartbeats 8000000 in
set_option maxRecDepth 100000 in
theorem mapWord_any (s : ByteArray) (w : World) (hs : s.size ≤ 1000) : Calls Tryd.prog 18 #[.string s] w (K.SomeBool (MW s.data.toList) w) := by
  go_enter Tryd.func18, Tryd.ntmps18
  go_wp2_with fail
  go_loop [3] (fun i => ∃ q : Nat, q ≤ s.size ∧ i = .int .i64 q ∧ Hid (∀ j (hj : j < s.size), j < q → wc s[j])) (fun i => s.size - (intOf i).toNat)
  case atStart => exact ⟨0, by omega, rfl, Lib.hid (fun j hj h => by omega)⟩
  case round =>
    obtain ⟨q, hq, rfl, HQ⟩ := hrel
    by_cases hlt : q < s.size
    · have HQ2 : Hid (wc s[q] → ∀ j (hj : j < s.size), j < q + 1 → wc s[j]) := Lib.hid (fun h0 j hj h => by
        rcases Nat.lt_or_ge j q with h2 | h2
        · exact HQ.out j hj h2
        · obtain rfl : j = q := by omega
          exact h0)
      obtain ⟨c, hc⟩ : ∃ c : Nat, s[q].toNat = c := ⟨_, rfl⟩
      have hcl : (0 ≤ c ∧ c ≤ 44) ∨ (45 ≤ c ∧ c ≤ 45) ∨ (46 ≤ c ∧ c ≤ 47) ∨ (48 ≤ c ∧ c ≤ 57) ∨ (58 ≤ c ∧ c ≤ 64) ∨ (65 ≤ c ∧ c ≤ 90) ∨ (91 ≤ c ∧ c ≤ 94) ∨ (95 ≤ c ∧ c ≤ 95) ∨ (96 ≤ c ∧ c ≤ 96) ∨ (97 ≤ c ∧ c ≤ 122) ∨ (123 ≤ c ∧ c ≤ 255) := by
        have := s[q].toNat_lt
        omega
      have HC := Lib.hid hc
      have hci : ((s[q].toNat : Nat) : Int) = (c : Int) := by rw [hc]
      clear hc
      rcases hcl with ⟨l1, l2⟩ | ⟨l1, l2⟩ | ⟨l1, l2⟩ | ⟨l1, l2⟩ | ⟨l1, l2⟩ | ⟨l1, l2⟩ | ⟨l1, l2⟩ | ⟨l1, l2⟩ | ⟨l1, l2⟩ | ⟨l1, l2⟩ | ⟨l1, l2⟩
      · have f0 : decide ((97 : Int) ≤ (c : Int)) = false := by rw [decide_eq_false_iff_not]; omega
        have f1 : decide ((65 : Int) ≤ (c : Int)) = false := by rw [decide_eq_false_iff_not]; omega
        have f2 : decide ((48 : Int) ≤ (c : Int)) = false := by rw [decide_eq_false_iff_not]; omega
        have f3 : decide ((c : Int) ≤ 122) = true := by rw [decide_eq_true_eq]; omega
        have f4 : decide ((c : Int) ≤ 90) = true := by rw [decide_eq_true_eq]; omega
        have f5 : decide ((c : Int) ≤ 57) = true := by rw [decide_eq_true_eq]; omega
        have f6 : ((c : Int) == 45) = false := by rw [beq_eq_false_iff_ne]; omega
        have f7 : ((c : Int) == 95) = false := by rw [beq_eq_false_iff_ne]; omega
        clear l1 l2
        go_wp2_with fail
        go_ret
        exact K.SomeBool.no
      · have f0 : decide ((97 : Int) ≤ (c : Int)) = false := by rw [decide_eq_false_iff_not]; omega
        have f1 : decide ((65 : Int) ≤ (c : Int)) = false := by rw [decide_eq_false_iff_not]; omega
        have f2 : decide ((48 : Int) ≤ (c : Int)) = false := by rw [decide_eq_false_iff_not]; omega
        have f3 : decide ((c : Int) ≤ 122) = true := by rw [decide_eq_true_eq]; omega
        have f4 : decide ((c : Int) ≤ 90) = true := by rw [decide_eq_true_eq]; omega
        have f5 : decide ((c : Int) ≤ 57) = true := by rw [decide_eq_true_eq]; omega
        have f6 : ((c : Int) == 45) = true := by rw [beq_iff_eq]; omega
        have f7 : ((c : Int) == 95) = false := by rw [beq_eq_false_iff_ne]; omega
        have HQ3 := Lib.hid (HQ2.out (by have := HC.out; unfold wc; omega))
        clear l1 l2
        go_wp2_with fail
        go_round
        case rel => exact ⟨q + 1, by omega, by go_num, HQ3⟩
        case measure => simp [intOf]; omega
      · have f0 : decide ((97 : Int) ≤ (c : Int)) = false := by rw [decide_eq_false_iff_not]; omega
        have f1 : decide ((65 : Int) ≤ (c : Int)) = false := by rw [decide_eq_false_iff_not]; omega
        have f2 : decide ((48 : Int) ≤ (c : Int)) = false := by rw [decide_eq_false_iff_not]; omega
        have f3 : decide ((c : Int) ≤ 122) = true := by rw [decide_eq_true_eq]; omega
        have f4 : decide ((c : Int) ≤ 90) = true := by rw [decide_eq_true_eq]; omega
        have f5 : decide ((c : Int) ≤ 57) = true := by rw [decide_eq_true_eq]; omega
        have f6 : ((c : Int) == 45) = false := by rw [beq_eq_false_iff_ne]; omega
        have f7 : ((c : Int) == 95) = false := by rw [beq_eq_false_iff_ne]; omega
        clear l1 l2
        go_wp2_with fail
        go_ret
        exact K.SomeBool.no
      · have f0 : decide ((97 : Int) ≤ (c : Int)) = false := by rw [decide_eq_false_iff_not]; omega
        have f1 : decide ((65 : Int) ≤ (c : Int)) = false := by rw [decide_eq_false_iff_not]; omega
        have f2 : decide ((48 : Int) ≤ (c : Int)) = true := by rw [decide_eq_true_eq]; omega
        have f3 : decide ((c : Int) ≤ 122) = true := by rw [decide_eq_true_eq]; omega
        have f4 : decide ((c : Int) ≤ 90) = true := by rw [decide_eq_true_eq]; omega
        have f5 : decide ((c : Int) ≤ 57) = true := by rw [decide_eq_true_eq]; omega
        have f6 : ((c : Int) == 45) = false := by rw [beq_eq_false_iff_ne]; omega
        have f7 : ((c : Int) == 95) = false := by rw [beq_eq_false_iff_ne]; omega
        have HQ3 := Lib.hid (HQ2.out (by have := HC.out; unfold wc; omega))
        clear l1 l2
        go_wp2_with fail
        go_round
        case rel => exact ⟨q + 1, by omega, by go_num, HQ3⟩
        case measure => simp [intOf]; omega
      · have f0 : decide ((97 : Int) ≤ (c : Int)) = false := by rw [decide_eq_false_iff_not]; omega
        have f1 : decide ((65 : Int) ≤ (c : Int)) = false := by rw [decide_eq_false_iff_not]; omega
        have f2 : decide ((48 : Int) ≤ (c : Int)) = true := by rw [decide_eq_true_eq]; omega
        have f3 : decide ((c : Int) ≤ 122) = true := by rw [decide_eq_true_eq]; omega
        have f4 : decide ((c : Int) ≤ 90) = true := by rw [decide_eq_true_eq]; omega
        have f5 : decide ((c : Int) ≤ 57) = false := by rw [decide_eq_false_iff_not]; omega
        have f6 : ((c : Int) == 45) = false := by rw [beq_eq_false_iff_ne]; omega
        have f7 : ((c : Int) == 95) = false := by rw [beq_eq_false_iff_ne]; omega
        clear l1 l2
        go_wp2_with fail
        go_ret
        exact K.SomeBool.no
      · have f0 : decide ((97 : Int) ≤ (c : Int)) = false := by rw [decide_eq_false_iff_not]; omega
        have f1 : decide ((65 : Int) ≤ (c : Int)) = true := by rw [decide_eq_true_eq]; omega
        have f2 : decide ((48 : Int) ≤ (c : Int)) = true := by rw [decide_eq_true_eq]; omega
        have f3 : decide ((c : Int) ≤ 122) = true := by rw [decide_eq_true_eq]; omega
        have f4 : decide ((c : Int) ≤ 90) = true := by rw [decide_eq_true_eq]; omega
        have f5 : decide ((c : Int) ≤ 57) = false := by rw [decide_eq_false_iff_not]; omega
        have f6 : ((c : Int) == 45) = false := by rw [beq_eq_false_iff_ne]; omega
        have f7 : ((c : Int) == 95) = false := by rw [beq_eq_false_iff_ne]; omega
        have HQ3 := Lib.hid (HQ2.out (by have := HC.out; unfold wc; omega))
        clear l1 l2
        go_wp2_with fail
        go_round
        case rel => exact ⟨q + 1, by omega, by go_num, HQ3⟩
        case measure => simp [intOf]; omega
      · have f0 : decide ((97 : Int) ≤ (c : Int)) = false := by rw [decide_eq_false_iff_not]; omega
        have f1 : decide ((65 : Int) ≤ (c : Int)) = true := by rw [decide_eq_true_eq]; omega
        have f2 : decide ((48 : Int) ≤ (c : Int)) = true := by rw [decide_eq_true_eq]; omega
        have f3 : decide ((c : Int) ≤ 122) = true := by rw [decide_eq_true_eq]; omega
        have f4 : decide ((c : Int) ≤ 90) = false := by rw [decide_eq_false_iff_not]; omega
        have f5 : decide ((c : Int) ≤ 57) = false := by rw [decide_eq_false_iff_not]; omega
        have f6 : ((c : Int) == 45) = false := by rw [beq_eq_false_iff_ne]; omega
        have f7 : ((c : Int) == 95) = false := by rw [beq_eq_false_iff_ne]; omega
        clear l1 l2
        go_wp2_with fail
        go_ret
        exact K.SomeBool.no
      · have f0 : decide ((97 : Int) ≤ (c : Int)) = false := by rw [decide_eq_false_iff_not]; omega
        have f1 : decide ((65 : Int) ≤ (c : Int)) = true := by rw [decide_eq_true_eq]; omega
        have f2 : decide ((48 : Int) ≤ (c : Int)) = true := by rw [decide_eq_true_eq]; omega
        have f3 : decide ((c : Int) ≤ 122) = true := by rw [decide_eq_true_eq]; omega
        have f4 : decide ((c : Int) ≤ 90) = false := by rw [decide_eq_false_iff_not]; omega
        have f5 : decide ((c : Int) ≤ 57) = false := by rw [decide_eq_false_iff_not]; omega
        have f6 : ((c : Int) == 45) = false := by rw [beq_eq_false_iff_ne]; omega
        have f7 : ((c : Int) == 95) = true := by rw [beq_iff_eq]; omega
        have HQ3 := Lib.hid (HQ2.out (by have := HC.out; unfold wc; omega))
        clear l1 l2
        go_wp2_with fail
        go_round
        case rel => exact ⟨q + 1, by omega, by go_num, HQ3⟩
        case measure => simp [intOf]; omega
      · have f0 : decide ((97 : Int) ≤ (c : Int)) = false := by rw [decide_eq_false_iff_not]; omega
        have f1 : decide ((65 : Int) ≤ (c : Int)) = true := by rw [decide_eq_true_eq]; omega
        have f2 : decide ((48 : Int) ≤ (c : Int)) = true := by rw [decide_eq_true_eq]; omega
        have f3 : decide ((c : Int) ≤ 122) = true := by rw [decide_eq_true_eq]; omega
        have f4 : decide ((c : Int) ≤ 90) = false := by rw [decide_eq_false_iff_not]; omega
        have f5 : decide ((c : Int) ≤ 57) = false := by rw [decide_eq_false_iff_not]; omega
        have f6 : ((c : Int) == 45) = false := by rw [beq_eq_false_iff_ne]; omega
        have f7 : ((c : Int) == 95) = false := by rw [beq_eq_false_iff_ne]; omega
        clear l1 l2
        go_wp2_with fail
        go_ret
        exact K.SomeBool.no
      · have f0 : decide ((97 : Int) ≤ (c : Int)) = true := by rw [decide_eq_true_eq]; omega
        have f1 : decide ((65 : Int) ≤ (c : Int)) = true := by rw [decide_eq_true_eq]; omega
        have f2 : decide ((48 : Int) ≤ (c : Int)) = true := by rw [decide_eq_true_eq]; omega
        have f3 : decide ((c : Int) ≤ 122) = true := by rw [decide_eq_true_eq]; omega
        have f4 : decide ((c : Int) ≤ 90) = false := by rw [decide_eq_false_iff_not]; omega
        have f5 : decide ((c : Int) ≤ 57) = false := by rw [decide_eq_false_iff_not]; omega
        have f6 : ((c : Int) == 45) = false := by rw [beq_eq_false_iff_ne]; omega
        have f7 : ((c : Int) == 95) = false := by rw [beq_eq_false_iff_ne]; omega
        have HQ3 := Lib.hid (HQ2.out (by have := HC.out; unfold wc; omega))
        clear l1 l2
        go_wp2_with fail
        go_round
        case rel => exact ⟨q + 1, by omega, by go_num, HQ3⟩
        case measure => simp [intOf]; omega
      · have f0 : decide ((97 : Int) ≤ (c : Int)) = true := by rw [decide_eq_true_eq]; omega
        have f1 : decide ((65 : Int) ≤ (c : Int)) = true := by rw [decide_eq_true_eq]; omega
        have f2 : decide ((48 : Int) ≤ (c : Int)) = true := by rw [decide_eq_true_eq]; omega
        have f3 : decide ((c : Int) ≤ 122) = false := by rw [decide_eq_false_iff_not]; omega
        have f4 : decide ((c : Int) ≤ 90) = false := by rw [decide_eq_false_iff_not]; omega
        have f5 : decide ((c : Int) ≤ 57) = false := by rw [decide_eq_false_iff_not]; omega
        have f6 : ((c : Int) == 45) = false := by rw [beq_eq_false_iff_ne]; omega
        have f7 : ((c : Int) == 95) = false := by rw [beq_eq_false_iff_ne]; omega
        clear l1 l2
        go_wp2_with fail
        go_ret
        exact K.SomeBool.no
    · by_cases h0 : s.size = 0
      · have e0 : s.toList.isEmpty = true := by
          rw [ByteArray.toList_eq, List.isEmpty_iff]
          exact List.eq_nil_of_length_eq_zero (by rw [K.bsize]; exact h0)
        clear h0
        go_wp2_with fail
        go_ret
        exact K.SomeBool.no
      · have e0 : s.toList.isEmpty = false := by
          rw [ByteArray.toList_eq, List.isEmpty_eq_false_iff]
          intro e
          have := K.bsize s
          rw [e] at this
          simp at this
          omega
        have HN := Lib.hid (show MW s.data.toList from by
          refine ⟨fun e => h0 (by rw [← K.bsize, e]; rfl), fun x hx => ?_⟩
          obtain ⟨j, hj, rfl⟩ := List.mem_iff_getElem.1 hx
          have hj2 : j < s.size := by rwa [K.bsize] at hj
          exact HQ.out j hj2 (by omega))
        clear h0
        go_wp2_with fail
        go_ret
        exact ⟨true, rfl, rfl, fun _ => HN.out⟩
end Go.Proofs.YtocfcajafkkhdaaDoor
end
/- Ms -/
section
namespace Go.Proofs.YtocfcajafkkhdaaDoor
open Go.RowKit

/-- points in the place of a mark -/
def rep (m : UInt8) (l : List UInt8) : List UInt8 := l.map fun c => if c = m then 46 else c
theorem jn_split (m : UInt8) : ∀ l : List UInt8, jn 46 (sp m l) = rep m l
  | [] => rfl
  | x :: r => by
    have ih := jn_split m r
    rw [sp_cons]
    by_cases hx : x = m
    · rw [if_pos hx, jn_cons 46 _ (sp_ne m r), ih]
      simp [rep, hx]
    · rw [if_neg hx]
      have hr : rep m (x :: r) = x :: rep m r := by simp [rep, hx]
      rw [hr, ← ih]
      cases hs : sp m r with
      | nil => exact absurd hs (sp_ne m r)
      | cons t ts =>
        cases ts with
        | nil => rfl
        | cons u us => rfl
theorem rep_snoc (m : UInt8) (l : List UInt8) (c : UInt8) : rep m (l ++ [c]) = rep m l ++ [if c = m then 46 else c] := by simp [rep]
/-- a mark stands between other characters -/
def Mid (m : UInt8) (l : List UInt8) : Prop := ∀ j, l[j]? = some m → 0 < j ∧ j + 1 < l.length ∧ l[j - 1]? ≠ some m
theorem mid_ne (m : UInt8) : ∀ (n : Nat) (l : List UInt8), l.length ≤ n → l ≠ [] → Mid m l → ∀ u ∈ sp m l, u ≠ []
  | 0, l, hn, h0, _ => absurd (List.eq_nil_of_length_eq_zero (by omega)) h0
  | n + 1, l, hn, h0, h => by
    by_cases hm : ∃ j : Nat, l[j]? = some m
    · obtain ⟨j, hj, hmin⟩ : ∃ j, l[j]? = some m ∧ ∀ i, i < j → l[i]? ≠ some m := by
        obtain ⟨j, hj⟩ := hm
        induction j using Nat.strongRecOn with
        | _ j ih =>
          by_cases hx : ∃ i, i < j ∧ l[i]? = some m
          · obtain ⟨i, hi, hi2⟩ := hx
            exact ih i hi hi2
          · exact ⟨j, hj, fun i hi e => hx ⟨i, hi, e⟩⟩
      obtain ⟨a1, a2, a3⟩ := h j hj
      rw [sp_first m l j hj hmin]
      intro u hu
      rcases List.mem_cons.1 hu with rfl | hu
      · intro e
        have := congrArg List.length e
        rw [List.length_take] at this
        simp at this
        rcases this with h9 | h9
        · omega
        · exact h0 h9
      · refine mid_ne m n (l.drop (j + 1)) (by rw [List.length_drop]; omega) ?_ ?_ u hu
        · intro e
          have := congrArg List.length e
          rw [List.length_drop] at this
          simp at this
          omega
        · intro k hk
          rw [List.getElem?_drop] at hk
          obtain ⟨b1, b2, b3⟩ := h _ hk
          have hk0 : 0 < k := by
            rcases Nat.eq_zero_or_pos k with rfl | hp
            · rw [show j + 1 + 0 - 1 = j from by omega] at b3
              exact absurd hj b3
            · exact hp
          refine ⟨hk0, by rw [List.length_drop]; omega, ?_⟩
          rw [List.getElem?_drop, show j + 1 + (k - 1) = j + 1 + k - 1 from by omega]
          exact b3
    · rw [sp_none m l (fun j e => hm ⟨j, e⟩)]
      intro u hu
      obtain rfl : u = l := by simpa using hu
      exact h0
/-- what mapSplit gives: some text; where it is known, what was split is joined by points -/
def MsPost (m : UInt8) (l : List UInt8) (w : World) (e : Ending) (w' : World) : Prop :=
  ∃ (b : Bool) (t : ByteArray), e = .returned (.tuple #[.string t, .bool b]) ∧ w = w' ∧ t.size ≤ l.length ∧ (b = true → t.data.toList = jn 46 (sp m l) ∧ ∀ u ∈ sp m l, u ≠ [])
theorem MsPost.no {m : UInt8} {l : List UInt8} {w : World} : MsPost m l w (.returned (.tuple #[.string ⟨#[]⟩, .bool false])) w := ⟨false, _, rfl, rfl, Nat.zero_le _, fun h => by cases h⟩
theorem one_extract {s : ByteArray} {q : Nat} (h : q < s.size) : (s.extract q (q + 1)).data.toList = [s[q]] := by
  rw [ext_data, K.drop_at s q h]
  simp
set_option maxHeartbeats 8000000 in
set_option maxRecDepth 100000 in
theorem mapSplit_any (s mk : ByteArray) (m : UInt8) (w : World) (hs : s.size ≤ 1000) (h0 : 0 < s.size) (hmk : mk.data.toList = [m]) : Calls Tryd.prog 27 #[.string s, .string mk] w (MsPost m s.data.toList w) := by
  have hone : ∀ q (h : q < s.size), s[q] = m → ((s.extract q (q + 1)).toList == mk.toList) = true := fun q h e => by
    rw [ByteArray.toList_eq, ByteArray.toList_eq, one_extract h, hmk, e, beq_iff_eq]
  have hno : ∀ q (h : q < s.size), s[q] ≠ m → ((s.extract q (q + 1)).toList == mk.toList) = false := fun q h e => by
    rw [ByteArray.toList_eq, ByteArray.toList_eq, one_extract h, hmk, beq_eq_false_iff_ne]
    intro e2
    exact e (by simpa using e2)
  have HX := Lib.hid (And.intro hone hno)
  clear hone hno hmk
  go_enter Tryd.func27, Tryd.ntmps27
  go_wp2_with fail
  go_loop [4, 6] (fun tv i => ∃ (q : Nat) (t : ByteArray), q ≤ s.size ∧ i = .int .i64 q ∧ tv = .string t ∧ t.size = q ∧ Hid (t.data.toList = rep m (s.data.toList.take q) ∧ ∀ j (hj : j < s.size), j < q → s[j] = m → 0 < j ∧ j + 1 < s.size ∧ ∀ h : j - 1 < s.size, s[j - 1] ≠ m)) (fun _ i => s.size - (intOf i).toNat)
  case atStart => exact ⟨0, ⟨#[]⟩, by omega, rfl, rfl, rfl, Lib.hid ⟨rfl, fun j hj h => by omega⟩⟩
  case round =>
    obtain ⟨q, t, hq, rfl, rfl, htq, HQ⟩ := hrel
    have HTQ := Lib.hid htq
    have htl : t.size ≤ 1000 := by omega
    clear htq
    by_cases hlt : q < s.size
    · have hsn := take_snoc s q hlt
      have s1 : (q : Int) ≤ (q : Int) + 1 := by omega
      have s2 : (q : Int) + 1 ≤ (s.size : Int) := by omega
      have s3 : ((q : Int) + 1).toNat = q + 1 := by omega
      by_cases hm : s[q] = m
      · have e1 := HX.out.1 q hlt hm
        have HM := Lib.hid hm
        have HS := Lib.hid hsn
        clear hm hsn
        by_cases hq0 : q = 0
        · subst hq0
          clear HS
          rw [show ((0 : Nat) : Int) + 1 = 1 from rfl] at s1 s2 s3
          go_wp2_with fail
          go_ret2
          exact MsPost.no
        · have b0 : ((q : Int) == 0) = false := by rw [beq_eq_false_iff_ne]; omega
          by_cases hql : q + 1 = s.size
          · have b1 : ((q : Int) == (s.size : Int) - 1) = true := by rw [beq_iff_eq]; omega
            have HQL := Lib.hid hql
            clear hql
            go_wp2_with fail
            go_ret2
            exact MsPost.no
          · clear b0 s1 s2 s3
            obtain ⟨p, rfl⟩ : ∃ p, q = p + 1 := ⟨q - 1, by omega⟩
            have hp : p < s.size := by omega
            have s0 : (0 : Int) ≤ (p : Int) + 1 := by omega
            have s1 : (p : Int) + 1 ≤ (p : Int) + 1 + 1 := by omega
            have s2 : (p : Int) + 1 + 1 ≤ (s.size : Int) := by omega
            have s3 : ((p : Int) + 1 + 1).toNat = p + 1 + 1 := by omega
            have s4 : ((p : Int) + 1).toNat = p + 1 := by omega
            have b0 : ((p : Int) + 1 == 0) = false := by rw [beq_eq_false_iff_ne]; omega
            have b1 : ((p : Int) + 1 == (s.size : Int) - 1) = false := by rw [beq_eq_false_iff_ne]; omega
            have c0 : (p : Int) + 1 - 1 = (p : Int) := by omega
            have c1 : (p : Int) ≤ (p : Int) + 1 := by omega
            have c2 : (p : Int) + 1 ≤ (s.size : Int) := by omega
            by_cases hpm : s[p] = m
            · have e2 := HX.out.1 p hp hpm
              clear hpm hq0 hql
              go_wp2_with fail
              go_ret2
              exact MsPost.no
            · have e2 := HX.out.2 p hp hpm
              have HN := Lib.hid (show ∀ j (hj : j < s.size), j < p + 1 + 1 → s[j] = m → 0 < j ∧ j + 1 < s.size ∧ ∀ h : j - 1 < s.size, s[j - 1] ≠ m from fun j hj h hjm => by
                rcases Nat.lt_or_ge j (p + 1) with h2 | h2
                · exact HQ.out.2 j hj h2 hjm
                · obtain rfl : j = p + 1 := by omega
                  exact ⟨by omega, by omega, fun _ => hpm⟩)
              clear hpm hq0 hql
              go_wp2_with fail
              go_round
              case rel =>
                have h46 : (⟨#[46]⟩ : ByteArray).size = 1 := rfl
                refine ⟨p + 1 + 1, t ++ ⟨#[46]⟩, by omega, by go_num, rfl, by rw [ByteArray.size_append, HTQ.out, h46], Lib.hid ⟨?_, HN.out⟩⟩
                rw [HS.out, rep_snoc, K.bapp, HQ.out.1, if_pos HM.out]
              case measure => simp [intOf]; omega
      · have e1 := HX.out.2 q hlt hm
        have HN := Lib.hid (show ∀ j (hj : j < s.size), j < q + 1 → s[j] = m → 0 < j ∧ j + 1 < s.size ∧ ∀ h : j - 1 < s.size, s[j - 1] ≠ m from fun j hj h hjm => by
          rcases Nat.lt_or_ge j q with h2 | h2
          · exact HQ.out.2 j hj h2 hjm
          · obtain rfl : j = q := by omega
            exact absurd hjm hm)
        have HM := Lib.hid hm
        have HS := Lib.hid hsn
        clear hm hsn
        go_wp2_with fail
        go_round
        case rel =>
          refine ⟨q + 1, t ++ s.extract q (q + 1), by omega, by go_num, rfl, by rw [ByteArray.size_append, HTQ.out, ByteArray.size_extract]; omega, Lib.hid ⟨?_, HN.out⟩⟩
          rw [HS.out, rep_snoc, K.bapp, HQ.out.1, one_extract hlt, if_neg HM.out]
        case measure => simp [intOf]; omega
    · obtain rfl : q = s.size := by omega
      go_wp2_with fail
      go_ret2
      have hall : s.data.toList.take s.size = s.data.toList := List.take_of_length_le (by rw [K.bsize]; exact Nat.le_refl _)
      refine ⟨true, t, rfl, rfl, by rw [K.bsize, HTQ.out]; exact Nat.le_refl _, fun _ => ⟨?_, ?_⟩⟩
      · rw [jn_split, HQ.out.1, hall]
      · refine mid_ne m _ _ (Nat.le_refl _) (fun e => by have := K.bsize s; rw [e] at this; simp at this; omega) ?_
        intro j hj
        have hj2 : j < s.size := by have := (List.getElem?_eq_some_iff.1 hj).1; rwa [K.bsize] at this
        have hjm : s[j] = m := by
          have := get_at hj2
          rw [hj] at this
          exact (Option.some.inj this).symm
        obtain ⟨a1, a2, a3⟩ := HQ.out.2 j hj2 hj2 hjm
        refine ⟨a1, by rw [K.bsize]; exact a2, fun e => ?_⟩
        have hj3 : j - 1 < s.size := by omega
        have h9 := get_at hj3
        rw [e] at h9
        exact a3 hj3 (Option.some.inj h9).symm
end Go.Proofs.YtocfcajafkkhdaaDoor
end
/- Mo -/
section
namespace Go.Proofs.YtocfcajafkkhdaaDoor
open Go.RowKit

/-- a word of a source as it stands in its text -/
def stT (t : List UInt8) : List UInt8 := if t = [] then [42] else t
/-- a source's tokens -/
def srcT (ws : List (List UInt8)) (rest : Bool) : List (List UInt8) := ws.map stT ++ if rest then [[62]] else []
/-- how many words are wildcards -/
def stars (ws : List (List UInt8)) : Nat := ws.countP (· == [])
def MoPost (ws : List (List UInt8)) (rest : Bool) (w : World) (e : Ending) (w' : World) : Prop :=
  ∃ (b : Bool) (t : ByteArray) (k : Int), e = .returned (.tuple #[.string t, .int .i64 k, .bool b]) ∧ w = w' ∧ t.size ≤ 1000 ∧ (b = true → t.data.toList = jn 46 (srcT ws rest) ∧ k = (stars ws : Int) ∧ (∀ u ∈ ws, u = [] ∨ MW u) ∧ srcT ws rest ≠ [])
theorem MoPost.no {ws : List (List UInt8)} {rest : Bool} {w : World} : MoPost ws rest w (.returned (.tuple #[.string ⟨#[]⟩, .int .i64 0, .bool false])) w := ⟨false, _, 0, rfl, rfl, by decide, fun h => by cases h⟩
theorem jn_snoc (c : UInt8) (a : List (List UInt8)) (t : List UInt8) : jn c (a ++ [t]) = if a = [] then t else jn c a ++ c :: t := by
  by_cases h : a = []
  · rw [if_pos h, h]; rfl
  · rw [if_neg h, jn_append c (by simp) h]; rfl
theorem stT_ne (t : List UInt8) : stT t ≠ [] := by
  unfold stT
  split
  · simp
  · assumption
theorem jn_nil {c : UInt8} : ∀ {a : List (List UInt8)}, (∀ t ∈ a, t ≠ []) → jn c a = [] → a = []
  | [], _, _ => rfl
  | [t], h, e => absurd (by simpa [jn] using e) (h t (by simp))
  | t :: u :: r, _, e => by
    rw [jn_cons c t (by simp)] at e
    simp at e
theorem take_getD {ws : List (List UInt8)} {k : Nat} (h : k < ws.length) : ws.take (k + 1) = ws.take k ++ [ws.getD k []] := by
  rw [List.take_succ_eq_append_getElem h]
  simp [List.getD, h]
def MoRel (ws : List (List UInt8)) (k : Nat) (t : ByteArray) (z : Int) : Prop := t.data.toList = jn 46 ((ws.take k).map stT) ∧ z = (stars (ws.take k) : Int) ∧ ∀ u ∈ ws.take k, u = [] ∨ MW u
theorem MoRel.step {ws : List (List UInt8)} {k : Nat} {t t2 : ByteArray} {z z2 : Int} (h : MoRel ws k t z) (hk : k < ws.length) (ht : t2.data.toList = (if k = 0 then [] else t.data.toList ++ [46]) ++ stT (ws.getD k [])) (hz : z2 = if ws.getD k [] = [] then z + 1 else z) (hw : ws.getD k [] = [] ∨ MW (ws.getD k [])) : MoRel ws (k + 1) t2 z2 := by
  obtain ⟨h1, h2, h3⟩ := h
  refine ⟨?_, ?_, ?_⟩
  · rw [take_getD hk, List.map_append, List.map_cons, List.map_nil, jn_snoc, ht, h1]
    by_cases h0 : k = 0
    · subst h0
      simp
    · rw [if_neg h0, if_neg (by intro e; have := congrArg List.length e; rw [List.length_map, List.length_take, List.length_nil] at this; omega)]
      simp
  · rw [take_getD hk, hz, h2]
    unfold stars
    rw [List.countP_append]
    by_cases h0 : ws.getD k [] = []
    · rw [if_pos h0, h0]
      simp
    · rw [if_neg h0]
      have : List.countP (fun x => x == []) [ws.getD k []] = 0 := by
        rw [List.countP_eq_zero]
        intro a ha
        obtain rfl : a = ws.getD k [] := by simpa using ha
        simpa using h0
      rw [this, Nat.add_zero]
  · intro u hu
    rw [take_getD hk] at hu
    rcases List.mem_append.1 hu with hu | hu
    · exact h3 u hu
    · obtain rfl : u = ws.getD k [] := by simpa using hu
      exact hw
theorem stars_le (ws : List (List UInt8)) : stars ws ≤ ws.length := List.countP_le_length
set_option maxHeartbeats 8000000 in
set_option maxRecDepth 100000 in
theorem mapSource_any (ws : List (List UInt8)) (rest : Bool) (A : Option Addr) (c : Nat) (w : World) (hn : ws.length ≤ 8) (hl : ∀ u ∈ ws, u.length ≤ 20) (hL : K.Lies w A ws.length (fun j => (ws.map sv).getD j undef)) :
    Calls Tryd.prog 17 #[.slice A ws.length c, .bool rest] w (MoPost ws rest w) := by
  have HL := Lib.hid (And.intro hL hl)
  clear hL hl
  go_enter Tryd.func17, Tryd.ntmps17
  go_wp2_with fail
  go_loop [4, 5, 11] (fun tv zv i => ∃ (k : Nat) (t : ByteArray) (z : Int), k ≤ ws.length ∧ i = .int .i64 k ∧ tv = .string t ∧ zv = .int .i64 z ∧ t.size ≤ 21 * k ∧ 0 ≤ z ∧ z ≤ k ∧ Hid (MoRel ws k t z)) (fun _ _ i => ws.length - (intOf i).toNat)
  case atStart => exact ⟨0, ⟨#[]⟩, 0, by omega, rfl, rfl, rfl, Nat.le_refl _, by omega, by omega, Lib.hid ⟨rfl, rfl, fun u hu => by simp at hu⟩⟩
  case round =>
    obtain ⟨k, t, z, hk, rfl, rfl, rfl, hts, hz0, hz1, HR⟩ := hrel
    have h46 : (⟨#[46]⟩ : ByteArray).size = 1 := rfl
    have h42 : (⟨#[42]⟩ : ByteArray).size = 1 := rfl
    have h62 : (⟨#[62]⟩ : ByteArray).size = 1 := rfl
    have HSZ := Lib.hid (And.intro h46 (And.intro h42 h62))
    clear h46 h42 h62
    by_cases hlt : k < ws.length
    · obtain ⟨ab, ao, rfl, hab, hcs⟩ := HL.out.1 (by omega)
      have c1 : w.cell? ⟨ab, ao + k, none⟩ = some (sv (ws.getD k [])) := by
        refine (hcs k hlt).trans ?_
        simp [List.getD, hlt]
      have hul := HL.out.2 (ws.getD k []) (by simp [List.getD, hlt])
      obtain ⟨tb, htb⟩ : ∃ tb : ByteArray, sv (ws.getD k []) = .string tb := ⟨_, rfl⟩
      have htl : tb.data.toList = ws.getD k [] := by unfold sv at htb; injection htb with htb; rw [← htb]
      rw [htb] at c1
      have htz : tb.size ≤ 20 := by rw [← K.bsize, htl]; exact hul
      have h18 := mapWord_any tb w (by omega)
      have HTL := Lib.hid htl
      clear hcs htb htl hul
      have hem : ∀ b, tb.toList.isEmpty = b → (tb.data.toList = [] ↔ b = true) := fun b e => by rw [← e, ByteArray.toList_eq, List.isEmpty_iff]
      have HEM := Lib.hid hem
      clear hem
      by_cases hk0 : k = 0
      · subst hk0
        rw [Nat.add_zero] at c1
        by_cases he : tb.toList.isEmpty = true
        · have HE := Lib.hid ((HEM.out _ he).2 rfl)
          clear h18
          go_wp2_with fail
          go_round
          case rel =>
            refine ⟨1, _, z + 1, by omega, rfl, rfl, rfl, ?_, by omega, by omega, Lib.hid (HR.out.step hlt ?_ (by rw [← HTL.out, HE.out, if_pos rfl]) (by rw [← HTL.out]; exact .inl HE.out))⟩
            · first | (rw [ByteArray.size_append, HSZ.out.2.1]; omega) | (rw [HSZ.out.2.1]; omega)
            · rw [← HTL.out, HE.out]
              have e0 : t.data.toList = [] := by rw [HR.out.1]; rfl
              first | (rw [K.bapp, e0]; rfl) | rfl
          case measure => simp [intOf]; omega
        · have he2 : tb.toList.isEmpty = false := by simpa using he
          have HE := Lib.hid (show ws.getD 0 [] ≠ [] from fun e => by
            have := (HEM.out _ he2).1 (HTL.out.trans e)
            cases this)
          clear he
          go_wp2_with fail
          refine h18.mono ?_
          rintro e w1 ⟨b, rfl, rfl, hb⟩
          clear h18
          cases b with
          | false =>
            clear hb
            go_wp2_with fail
            go_ret3
            exact MoPost.no
          | true =>
            have HB := Lib.hid (hb rfl)
            clear hb
            go_wp2_with fail
            go_round
            case rel =>
              refine ⟨1, t ++ tb, z, by omega, rfl, rfl, rfl, by rw [ByteArray.size_append]; omega, by omega, by omega, Lib.hid (HR.out.step hlt ?_ (by rw [if_neg HE.out]) (.inr (by rw [← HTL.out]; exact HB.out)))⟩
              have e0 : t.data.toList = [] := by rw [HR.out.1]; rfl
              rw [K.bapp, e0, HTL.out]
              unfold stT
              rw [if_neg HE.out]
              rfl
            case measure => simp [intOf]; omega
      · have hk1 : (0 : Int) < (k : Int) := by omega
        by_cases he : tb.toList.isEmpty = true
        · have HE := Lib.hid ((HEM.out _ he).2 rfl)
          clear h18
          go_wp2_with fail
          go_round
          case rel =>
            refine ⟨k + 1, t ++ ⟨#[46]⟩ ++ ⟨#[42]⟩, z + 1, by omega, by go_num, rfl, rfl, ?_, by omega, by omega, Lib.hid (HR.out.step hlt ?_ (by rw [← HTL.out, HE.out, if_pos rfl]) (by rw [← HTL.out]; exact .inl HE.out))⟩
            · rw [ByteArray.size_append, ByteArray.size_append, HSZ.out.1, HSZ.out.2.1]; omega
            · rw [← HTL.out, HE.out, if_neg hk0, K.bapp, K.bapp]
              rfl
          case measure => simp [intOf]; omega
        · have he2 : tb.toList.isEmpty = false := by simpa using he
          have HE := Lib.hid (show ws.getD k [] ≠ [] from fun e => by
            have := (HEM.out _ he2).1 (HTL.out.trans e)
            cases this)
          clear he
          go_wp2_with fail
          refine h18.mono ?_
          rintro e w1 ⟨b, rfl, rfl, hb⟩
          clear h18
          cases b with
          | false =>
            clear hb
            go_wp2_with fail
            go_ret3
            exact MoPost.no
          | true =>
            have HB := Lib.hid (hb rfl)
            clear hb
            go_wp2_with fail
            go_round
            case rel =>
              refine ⟨k + 1, t ++ ⟨#[46]⟩ ++ tb, z, by omega, by go_num, rfl, rfl, by rw [ByteArray.size_append, ByteArray.size_append, HSZ.out.1]; omega, by omega, by omega, Lib.hid (HR.out.step hlt ?_ (by rw [if_neg HE.out]) (.inr (by rw [← HTL.out]; exact HB.out)))⟩
              rw [if_neg hk0, K.bapp, K.bapp, HTL.out]
              unfold stT
              rw [if_neg HE.out]
            case measure => simp [intOf]; omega
    · obtain rfl : k = ws.length := by omega
      have htk : ws.take ws.length = ws := List.take_length
      have hrel := HR.out
      unfold MoRel at hrel
      rw [htk] at hrel
      have HRR := Lib.hid hrel
      clear hrel
      have hle : (ws.length : Int) ≤ 30 := by omega
      have hempty : ∀ b, t.toList.isEmpty = b → (ws = [] ↔ b = true) := fun b e => by
        rw [← e, ByteArray.toList_eq, List.isEmpty_iff, HRR.out.1]
        constructor
        · rintro rfl; rfl
        · intro e
          have := jn_nil (fun u hu => by obtain ⟨v, _, rfl⟩ := List.mem_map.1 hu; exact stT_ne v) e
          simpa using this
      have HEM := Lib.hid hempty
      clear hempty
      cases rest with
      | false =>
        by_cases he : t.toList.isEmpty = true
        · go_wp2_with fail
          go_ret3
          exact ⟨false, t, z, rfl, rfl, by omega, fun h => by cases h⟩
        · have he2 : t.toList.isEmpty = false := by simpa using he
          clear he
          go_wp2_with fail
          go_ret3
          refine ⟨true, t, z, rfl, rfl, by omega, fun _ => ⟨?_, HRR.out.2.1, HRR.out.2.2, ?_⟩⟩
          · rw [HRR.out.1]; unfold srcT; simp
          · unfold srcT
            intro e
            have : ws = [] := by simpa using e
            have := (HEM.out _ he2).1 this
            cases this
      | true =>
        have hfin : ∀ u : ByteArray, u.data.toList = [62] → u.toList.isEmpty = false := fun u e => by rw [ByteArray.toList_eq, e]; rfl
        by_cases he : t.toList.isEmpty = true
        · have hws := (HEM.out _ he).2 rfl
          have ht0 : t.data.toList = [] := by rw [HRR.out.1, hws]; rfl
          obtain ⟨u, hu⟩ : ∃ u : ByteArray, t ++ ⟨#[62]⟩ = u := ⟨_, rfl⟩
          have hu1 : u.data.toList = [62] := by rw [← hu, K.bapp, ht0]; rfl
          have hu2 : u.toList.isEmpty = false := hfin u hu1
          have hu3 : u.size ≤ 200 := by rw [← hu, ByteArray.size_append, HSZ.out.2.2]; omega
          have HU := Lib.hid (And.intro hu1 hws)
          rw [← hu] at hu2
          have HU0 := Lib.hid hu
          clear hu1 hws ht0 hu
          go_wp2_with fail
          go_ret3
          refine ⟨true, t ++ ⟨#[62]⟩, z, rfl, rfl, by rw [HU0.out]; omega, fun _ => ⟨?_, HRR.out.2.1, HRR.out.2.2, by unfold srcT; simp⟩⟩
          rw [HU0.out, HU.out.1, HU.out.2]
          rfl
        · have he2 : t.toList.isEmpty = false := by simpa using he
          obtain ⟨u, hu⟩ : ∃ u : ByteArray, t ++ ⟨#[46]⟩ ++ ⟨#[62]⟩ = u := ⟨_, rfl⟩
          have hu1 : u.data.toList = t.data.toList ++ [46, 62] := by rw [← hu, K.bapp, K.bapp]; simp
          have hu2 : u.toList.isEmpty = false := by rw [ByteArray.toList_eq, hu1]; simp
          have hu3 : u.size ≤ 200 := by rw [← hu, ByteArray.size_append, ByteArray.size_append, HSZ.out.2.2, HSZ.out.1]; omega
          have HU := Lib.hid (And.intro hu1 hu3)
          rw [← hu] at hu2
          have HU0 := Lib.hid hu
          clear hu1 he hu3 hu
          go_wp2_with fail
          go_ret3
          refine ⟨true, t ++ ⟨#[46]⟩ ++ ⟨#[62]⟩, z, rfl, rfl, by rw [HU0.out]; exact Nat.le_trans HU.out.2 (by omega), fun _ => ⟨?_, HRR.out.2.1, HRR.out.2.2, by unfold srcT; simp⟩⟩
          have hne : ws.map stT ≠ [] := by
            intro e
            have : ws = [] := by simpa using e
            have := (HEM.out _ he2).1 this
            cases this
          rw [HU0.out, HU.out.1, HRR.out.1]
          unfold srcT
          rw [if_pos rfl, jn_snoc, if_neg hne]
end Go.Proofs.YtocfcajafkkhdaaDoor
end
