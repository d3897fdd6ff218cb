/-
  The law's looks at sizes: zzFits2, zzFits6, small; loose. Printed by wip/py/gen_sz.py.
-/
import Derived.Test.YtocfcajafkkhdaaDoorZMe
namespace Go.Proofs.YtocfcajafkkhdaaDoor
open Go.RowKit

def Fit2 (ws : List (List UInt8)) : Prop := ws.length ≤ 2147483647 ∧ ∀ u ∈ ws, u.length ≤ 2147483647
def Fit6 (l : List Pi) : Prop := l.length ≤ 2147483647 ∧ ∀ p ∈ l, p.word.size ≤ 2147483647 ∧ p.all.length ≤ 2147483647
set_option maxHeartbeats 4000000 in
set_option maxRecDepth 100000 in
theorem fits2_any (ws : List (List UInt8)) (A : Option Addr) (c : Nat) (w : World) (hn : ws.length ≤ 9223372036854775807) (hs : ∀ u ∈ ws, u.length ≤ 9223372036854775807) (hL : K.Lies w A ws.length (svs ws)) : Calls Tryd.prog 6 #[.slice A ws.length c] w (K.SomeBool (Fit2 ws) w) := by
  have HL := Lib.hid (And.intro hL hs)
  clear hL hs
  by_cases h1 : ws.length ≤ 2147483647
  · have b1 : ¬ (2147483647 : Int) < (ws.length : Int) := by omega
    clear hn
    go_enter Tryd.func6, Tryd.ntmps6
    go_wp2_with fail
    go_loop [10] (fun i => ∃ j : Nat, j ≤ ws.length ∧ i = .int .i64 j ∧ Hid (∀ u ∈ ws.take j, u.length ≤ 2147483647)) (fun i => ws.length - (intOf i).toNat)
    case atStart => exact ⟨0, by omega, rfl, Lib.hid (fun u hu => by simp at hu)⟩
    case round =>
      obtain ⟨j, hj, rfl, HW⟩ := hrel
      by_cases hlt : j < ws.length
      · obtain ⟨ab, ao, tb, rfl, c1, htl, hmem, _⟩ := lies_at HL.out.1 hlt
        have hsz : tb.size ≤ 9223372036854775807 := by rw [← K.bsize, htl]; exact HL.out.2 _ hmem
        have htk := take_getD hlt
        rw [← htl] at htk
        have HT := Lib.hid htk
        clear htl hmem htk
        by_cases h2 : tb.size ≤ 2147483647
        · have b2 : ¬ (2147483647 : Int) < (tb.size : Int) := by omega
          have HW2 := Lib.hid (show ∀ u ∈ ws.take (j + 1), u.length ≤ 2147483647 from fun u hu => by
            rw [HT.out] at hu
            rcases List.mem_append.1 hu with hu | hu
            · exact HW.out u hu
            · obtain rfl := List.mem_singleton.1 hu
              rw [K.bsize]; exact h2)
          go_wp2_with fail
          go_round
          case rel => exact ⟨j + 1, by omega, by go_num, HW2⟩
          case measure => simp [intOf]; omega
        · have b2 : (2147483647 : Int) < (tb.size : Int) := by omega
          clear h2
          go_wp2_with fail
          go_ret
          exact K.SomeBool.no
      · have hall := HW.out
        rw [List.take_of_length_le (by omega)] at hall
        have HA := Lib.hid hall
        clear hall
        obtain rfl : j = ws.length := by omega
        go_wp2_with fail
        go_ret
        exact ⟨true, rfl, rfl, fun _ => ⟨h1, HA.out⟩⟩
  · have b1 : (2147483647 : Int) < (ws.length : Int) := by omega
    clear h1
    go_enter Tryd.func6, Tryd.ntmps6
    go_wp2_with fail
    go_ret
    exact K.SomeBool.no
set_option maxHeartbeats 4000000 in
set_option maxRecDepth 100000 in
theorem fits7_any (p : Pi) (B : Option Addr) (d : Nat) (w : World) (h1 : p.word.size ≤ 9223372036854775807) (h2 : p.all.length ≤ 9223372036854775807) : Calls Tryd.prog 16 #[p.v B d] w (BoolIf (p.word.size ≤ 2147483647 ∧ p.all.length ≤ 2147483647) w) := by
  obtain ⟨fn, at_, n, word, all⟩ := p
  unfold Pi.v
  simp only at h1 h2 ⊢
  have hb : Below w.heap.size w (w.alloc (.cells #[.int .i64 fn, .int .i64 at_, .int .i64 n, .string word, .slice B all.length d] 41)) := (Below.refl _ w).alloc (Nat.le_refl _) _
  have HB := Lib.hid hb
  clear hb
  by_cases e1 : word.size ≤ 2147483647
  · have b1 : ¬ (2147483647 : Int) < (word.size : Int) := by omega
    by_cases e2 : all.length ≤ 2147483647
    · have b2 : ¬ (2147483647 : Int) < (all.length : Int) := by omega
      have HE := Lib.hid (BoolIf.yes HB.out (And.intro e1 e2))
      clear e1 e2
      go_enter Tryd.func16, Tryd.ntmps16
      go_wp2_with fail
      go_ret
      exact HE.out
    · have b2 : (2147483647 : Int) < (all.length : Int) := by omega
      clear e2
      go_enter Tryd.func16, Tryd.ntmps16
      go_wp2_with fail
      go_ret
      exact BoolIf.no HB.out
  · have b1 : (2147483647 : Int) < (word.size : Int) := by omega
    clear e1
    go_enter Tryd.func16, Tryd.ntmps16
    go_wp2_with fail
    go_ret
    exact BoolIf.no HB.out
set_option maxHeartbeats 4000000 in
set_option maxRecDepth 100000 in
theorem fits6_any (l : List Pi) (A : Option Addr) (c : Nat) (w : World) (hn : l.length ≤ 9223372036854775807) (hs : ∀ p ∈ l, p.word.size ≤ 9223372036854775807 ∧ p.all.length ≤ 9223372036854775807) (hL : PsAt w A l) : Calls Tryd.prog 7 #[.slice A l.length c] w (BoolIf (Fit6 l) w) := by
  have HL := Lib.hid (And.intro hL hs)
  clear hL hs
  by_cases h1 : l.length ≤ 2147483647
  · have b1 : ¬ (2147483647 : Int) < (l.length : Int) := by omega
    clear hn
    go_enter Tryd.func7, Tryd.ntmps7
    go_wp2_with fail
    go_loopg [10] l.length (fun gk i wv => ∃ j : Nat, gk + j = l.length ∧ i = .int .i64 j ∧ Hid (Below w.heap.size w wv ∧ ∀ p ∈ l.take j, p.word.size ≤ 2147483647 ∧ p.all.length ≤ 2147483647))
    case atStart => exact ⟨0, by omega, rfl, Lib.hid ⟨Below.refl _ _, fun u hu => by simp at hu⟩⟩
    case round =>
      obtain ⟨j, hj, rfl, HW⟩ := hrel
      by_cases hlt : j < l.length
      · obtain ⟨ab, ao, rfl, hab, hcs⟩ := HL.out.1 (by omega)
        have hcell : ∀ (i : Nat) (v : Value), w.cell? ⟨ab, i, none⟩ = some v → wr.cell? ⟨ab, i, none⟩ = some v := fun i v h => (HW.out.1.cell (p := ⟨ab, i, none⟩) hab).trans h
        obtain ⟨e0, e1, e2, e3, B, d, e4, _⟩ := hcs j hlt
        have f0 := hcell _ _ e0
        have f1 := hcell _ _ e1
        have f2 := hcell _ _ e2
        have f3 := hcell _ _ e3
        have f4 := hcell _ _ e4
        have hsz := HL.out.2 l[j] (List.getElem_mem hlt)
        have htk := List.take_succ_eq_append_getElem hlt
        have hb1 : Below w.heap.size w (wr.alloc (.cells #[.int .i64 l[j].fn, .int .i64 l[j].at_, .int .i64 l[j].n, .string l[j].word, .slice B l[j].all.length d] 41)) := HW.out.1.alloc HW.out.1.size _
        have h16 := fits7_any l[j] B d (wr.alloc (.cells #[.int .i64 l[j].fn, .int .i64 l[j].at_, .int .i64 l[j].n, .string l[j].word, .slice B l[j].all.length d] 41)) hsz.1 hsz.2
        unfold Pi.v at h16
        have HT := Lib.hid (And.intro htk hb1)
        have HJ := Lib.hid hj
        clear hcs hcell e0 e1 e2 e3 e4 hsz htk hb1 hj
        go_wp2_with fail
        refine h16.mono ?_
        rintro e w2 ⟨b, rfl, hb2, hbt⟩
        have HB2 := Lib.hid (HT.out.2.trans (hb2.mono HT.out.2.size))
        clear h16 hb2 f0 f1 f2 f3 f4
        cases b with
        | false =>
          clear hbt
          go_wp2_with fail
          go_ret
          exact BoolIf.no HB2.out
        | true =>
          have HB := Lib.hid (hbt rfl)
          clear hbt
          go_wp2_with fail
          go_roundg (gk - 1)
          case measure => have := HJ.out; omega
          case rel =>
            refine ⟨j + 1, by have := HJ.out; omega, by go_num, Lib.hid ⟨HB2.out, fun p hp => ?_⟩⟩
            rw [HT.out.1] at hp
            rcases List.mem_append.1 hp with hp | hp
            · exact HW.out.2 p hp
            · obtain rfl := List.mem_singleton.1 hp
              exact HB.out
      · have hall := HW.out.2
        rw [List.take_of_length_le (by omega)] at hall
        have HA := Lib.hid hall
        clear hall
        obtain rfl : j = l.length := by omega
        go_wp2_with fail
        go_ret
        exact BoolIf.yes HW.out.1 ⟨h1, HA.out⟩
  · have b1 : (2147483647 : Int) < (l.length : Int) := by omega
    clear h1
    go_enter Tryd.func7, Tryd.ntmps7
    go_wp2_with fail
    go_ret
    exact BoolIf.no (Below.refl _ _)
def Sml (ws : List (List UInt8)) (dest : List Pi) (ss ts : List (List UInt8)) : Prop := (ws.length ≤ 8 ∧ dest.length ≤ 8 ∧ ss.length ≤ 8 ∧ ts.length ≤ 4) ∧ (∀ u ∈ ws, u.length ≤ 20) ∧ (∀ u ∈ ss, u.length ≤ 20) ∧ (∀ u ∈ ts, u.length ≤ 20) ∧ ∀ p ∈ dest, p.Sm
set_option maxHeartbeats 8000000 in
set_option maxRecDepth 100000 in
theorem small_any (ws : List (List UInt8)) (dest : List Pi) (ss ts : List (List UInt8)) (A0 A2 A3 A4 : Option Addr) (d0 d2 d3 d4 : Nat) (w : World) (hC : Mc w A0 A2 A3 A4 ws dest ss ts) (f0 : Fit2 ws) (f2 : Fit6 dest) (f3 : Fit2 ss) (f4 : Fit2 ts) :
    Calls Tryd.prog 8 #[.slice A0 ws.length d0, .slice A2 dest.length d2, .slice A3 ss.length d3, .slice A4 ts.length d4] w (K.SomeBool (Sml ws dest ss ts) w) := by
  have HC := Lib.hid (And.intro hC (And.intro f0 (And.intro f2 (And.intro f3 f4))))
  have n0 := f0.1
  have n2 := f2.1
  have n3 := f3.1
  have n4 := f4.1
  clear hC f0 f2 f3 f4
  go_enter Tryd.func8, Tryd.ntmps8
  go_wp2_with fail
  go_loop [9] (fun i => ∃ j : Nat, j ≤ ws.length ∧ i = .int .i64 j ∧ Hid (∀ u ∈ ws.take j, u.length ≤ 20)) (fun i => ws.length - (intOf i).toNat)
  case atStart => exact ⟨0, by omega, rfl, Lib.hid (fun u hu => by simp at hu)⟩
  case round =>
    obtain ⟨j, hj, rfl, HW⟩ := hrel
    by_cases hlt : j < ws.length
    · obtain ⟨ab, ao, tb, rfl, c1, htl, hmem, _⟩ := lies_at HC.out.1.l0 hlt
      have hsz : tb.size ≤ 2147483647 := by rw [← K.bsize, htl]; exact HC.out.2.1.2 _ hmem
      have htk := take_getD hlt
      rw [← htl] at htk
      have HT := Lib.hid htk
      clear htl hmem htk
      by_cases h2 : tb.size ≤ 20
      · have b2 : ¬ (20 : Int) < (tb.size : Int) := by omega
        have HW2 := Lib.hid (show ∀ u ∈ ws.take (j + 1), u.length ≤ 20 from fun u hu => by
          rw [HT.out] at hu
          rcases List.mem_append.1 hu with hu | hu
          · exact HW.out u hu
          · obtain rfl := List.mem_singleton.1 hu
            rw [K.bsize]; exact h2)
        go_wp2_with fail
        go_round
        case rel => exact ⟨j + 1, by omega, by go_num, HW2⟩
        case measure => simp [intOf]; omega
      · have b2 : (20 : Int) < (tb.size : Int) := by omega
        clear h2
        go_wp2_with fail
        go_ret
        exact K.SomeBool.no
    · have hall := HW.out
      rw [List.take_of_length_le (by omega)] at hall
      have HA := Lib.hid hall
      clear hall HW
      obtain rfl : j = ws.length := by omega
      go_wp2_with fail
      go_loop [10] (fun i => ∃ j : Nat, j ≤ ss.length ∧ i = .int .i64 j ∧ Hid (∀ u ∈ ss.take j, u.length ≤ 20)) (fun i => ss.length - (intOf i).toNat)
      case atStart => exact ⟨0, by omega, rfl, Lib.hid (fun u hu => by simp at hu)⟩
      case round =>
        obtain ⟨j, hj, rfl, HW⟩ := hrel
        by_cases hlt : j < ss.length
        · obtain ⟨ab, ao, tb, rfl, c1, htl, hmem, _⟩ := lies_at HC.out.1.l3 hlt
          have hsz : tb.size ≤ 2147483647 := by rw [← K.bsize, htl]; exact HC.out.2.2.2.1.2 _ hmem
          have htk := take_getD hlt
          rw [← htl] at htk
          have HT := Lib.hid htk
          clear htl hmem htk
          by_cases h2 : tb.size ≤ 20
          · have b2 : ¬ (20 : Int) < (tb.size : Int) := by omega
            have HW2 := Lib.hid (show ∀ u ∈ ss.take (j + 1), u.length ≤ 20 from fun u hu => by
              rw [HT.out] at hu
              rcases List.mem_append.1 hu with hu | hu
              · exact HW.out u hu
              · obtain rfl := List.mem_singleton.1 hu
                rw [K.bsize]; exact h2)
            go_wp2_with fail
            go_round
            case rel => exact ⟨j + 1, by omega, by go_num, HW2⟩
            case measure => simp [intOf]; omega
          · have b2 : (20 : Int) < (tb.size : Int) := by omega
            clear h2
            go_wp2_with fail
            go_ret
            exact K.SomeBool.no
        · have hall := HW.out
          rw [List.take_of_length_le (by omega)] at hall
          have HS := Lib.hid hall
          clear hall HW
          obtain rfl : j = ss.length := by omega
          go_wp2_with fail
          go_loop [11] (fun i => ∃ j : Nat, j ≤ ts.length ∧ i = .int .i64 j ∧ Hid (∀ u ∈ ts.take j, u.length ≤ 20)) (fun i => ts.length - (intOf i).toNat)
          case atStart => exact ⟨0, by omega, rfl, Lib.hid (fun u hu => by simp at hu)⟩
          case round =>
            obtain ⟨j, hj, rfl, HW⟩ := hrel
            by_cases hlt : j < ts.length
            · obtain ⟨ab, ao, tb, rfl, c1, htl, hmem, _⟩ := lies_at HC.out.1.l4 hlt
              have hsz : tb.size ≤ 2147483647 := by rw [← K.bsize, htl]; exact HC.out.2.2.2.2.2 _ hmem
              have htk := take_getD hlt
              rw [← htl] at htk
              have HT := Lib.hid htk
              clear htl hmem htk
              by_cases h2 : tb.size ≤ 20
              · have b2 : ¬ (20 : Int) < (tb.size : Int) := by omega
                have HW2 := Lib.hid (show ∀ u ∈ ts.take (j + 1), u.length ≤ 20 from fun u hu => by
                  rw [HT.out] at hu
                  rcases List.mem_append.1 hu with hu | hu
                  · exact HW.out u hu
                  · obtain rfl := List.mem_singleton.1 hu
                    rw [K.bsize]; exact h2)
                go_wp2_with fail
                go_round
                case rel => exact ⟨j + 1, by omega, by go_num, HW2⟩
                case measure => simp [intOf]; omega
              · have b2 : (20 : Int) < (tb.size : Int) := by omega
                clear h2
                go_wp2_with fail
                go_ret
                exact K.SomeBool.no
            · have hall := HW.out
              rw [List.take_of_length_le (by omega)] at hall
              have HTT := Lib.hid hall
              clear hall HW
              obtain rfl : j = ts.length := by omega
              go_wp2_with fail
              go_loop [12] (fun i => ∃ j : Nat, j ≤ dest.length ∧ i = .int .i64 j ∧ Hid (∀ p ∈ dest.take j, p.Sm)) (fun i => dest.length - (intOf i).toNat)
              case atStart => exact ⟨0, by omega, rfl, Lib.hid (fun u hu => by simp at hu)⟩
              case round =>
                obtain ⟨j, hj, rfl, HW⟩ := hrel
                by_cases hlt : j < dest.length
                · obtain ⟨ab, ao, rfl, hab, hcs⟩ := HC.out.1.l2 (by omega)
                  obtain ⟨e0, e1, e2, e3, B, d, e4, _⟩ := hcs j hlt
                  have hsz := HC.out.2.2.1.2 dest[j] (List.getElem_mem hlt)
                  have htk := List.take_succ_eq_append_getElem hlt
                  have HT := Lib.hid htk
                  clear hcs htk
                  generalize dest[j] = p at e0 e1 e2 e3 e4 hsz HT
                  obtain ⟨fn, at_, n, word, all⟩ := p
                  simp only at e0 e1 e2 e3 e4 hsz
                  obtain ⟨hs1, hs2⟩ := hsz
                  by_cases q1 : fn < 0
                  · have b1 : decide (fn < 0) = true := by rw [decide_eq_true_eq]; exact q1
                    clear q1
                    go_wp2_with fail
                    go_ret
                    exact K.SomeBool.no
                  · have b1 : decide (fn < 0) = false := by rw [decide_eq_false_iff_not]; exact q1
                    by_cases q2 : 10 < fn
                    · have b2 : decide (10 < fn) = true := by rw [decide_eq_true_eq]; exact q2
                      clear q1 q2
                      go_wp2_with fail
                      go_ret
                      exact K.SomeBool.no
                    · have b2 : decide (10 < fn) = false := by rw [decide_eq_false_iff_not]; exact q2
                      by_cases q3 : 5 < all.length
                      · have b3 : decide ((5 : Int) < (all.length : Int)) = true := by rw [decide_eq_true_eq]; omega
                        clear q1 q2 q3
                        go_wp2_with fail
                        go_ret
                        exact K.SomeBool.no
                      · have b3 : decide ((5 : Int) < (all.length : Int)) = false := by rw [decide_eq_false_iff_not]; omega
                        by_cases q4 : 20 < word.size
                        · have b4 : decide ((20 : Int) < (word.size : Int)) = true := by rw [decide_eq_true_eq]; omega
                          clear q1 q2 q3 q4
                          go_wp2_with fail
                          go_ret
                          exact K.SomeBool.no
                        · have b4 : decide ((20 : Int) < (word.size : Int)) = false := by rw [decide_eq_false_iff_not]; omega
                          have HW2 := Lib.hid (show ∀ p ∈ dest.take (j + 1), p.Sm from fun p hp => by
                            rw [HT.out] at hp
                            rcases List.mem_append.1 hp with hp | hp
                            · exact HW.out p hp
                            · obtain rfl := List.mem_singleton.1 hp
                              exact ⟨by simp only; omega, by simp only; omega, by simp only; omega, by simp only; omega⟩)
                          clear q1 q2 q3 q4
                          go_wp2_with fail
                          go_round
                          case rel => exact ⟨j + 1, by omega, by go_num, HW2⟩
                          case measure => simp [intOf]; omega
                · have hall := HW.out
                  rw [List.take_of_length_le (by omega)] at hall
                  have HD := Lib.hid hall
                  clear hall HW
                  obtain rfl : j = dest.length := by omega
                  by_cases q1 : ws.length ≤ 8
                  · have b1 : decide ((ws.length : Int) ≤ 8) = true := by rw [decide_eq_true_eq]; omega
                    by_cases q2 : dest.length ≤ 8
                    · have b2 : decide ((dest.length : Int) ≤ 8) = true := by rw [decide_eq_true_eq]; omega
                      by_cases q3 : ss.length ≤ 8
                      · have b3 : decide ((ss.length : Int) ≤ 8) = true := by rw [decide_eq_true_eq]; omega
                        by_cases q4 : ts.length ≤ 4
                        · have b4 : decide ((ts.length : Int) ≤ 4) = true := by rw [decide_eq_true_eq]; omega
                          go_wp2_with fail
                          go_ret
                          exact ⟨true, rfl, rfl, fun _ => ⟨⟨q1, q2, q3, q4⟩, HA.out, HS.out, HTT.out, HD.out⟩⟩
                        · have b4 : decide ((ts.length : Int) ≤ 4) = false := by rw [decide_eq_false_iff_not]; omega
                          go_wp2_with fail
                          go_ret
                          exact K.SomeBool.no
                      · have b3 : decide ((ss.length : Int) ≤ 8) = false := by rw [decide_eq_false_iff_not]; omega
                        go_wp2_with fail
                        go_ret
                        exact K.SomeBool.no
                    · have b2 : decide ((dest.length : Int) ≤ 8) = false := by rw [decide_eq_false_iff_not]; omega
                      go_wp2_with fail
                      go_ret
                      exact K.SomeBool.no
                  · have b1 : decide ((ws.length : Int) ≤ 8) = false := by rw [decide_eq_false_iff_not]; omega
                    go_wp2_with fail
                    go_ret
                    exact K.SomeBool.no
/-- how many pieces name a wildcard -/
def named (l : List Pi) : Nat := l.countP (fun p => decide (0 < p.fn))
def Loose (l : List Pi) (n : Nat) : Prop := (∃ p ∈ l, 2 < p.fn) ∨ named l < n
theorem named_take {l : List Pi} {j : Nat} (h : j < l.length) : named (l.take (j + 1)) = named (l.take j) + if 0 < l[j].fn then 1 else 0 := by
  unfold named
  rw [List.take_succ_eq_append_getElem h, List.countP_append]
  congr 1
  by_cases h0 : 0 < l[j].fn
  · rw [if_pos h0]; simp [h0]
  · rw [if_neg h0]; simp [h0]
set_option maxHeartbeats 8000000 in
set_option maxRecDepth 100000 in
theorem loose_any (l : List Pi) (A : Option Addr) (c n : Nat) (w : World) (hn : l.length ≤ 8) (_hm : n ≤ 8) (hC : PsAt w A l) : Calls Tryd.prog 15 #[.slice A l.length c, .int .i64 n] w (K.SomeBool (Loose l n) w) := by
  have HC := Lib.hid hC
  clear hC
  go_enter Tryd.func15, Tryd.ntmps15
  go_wp2_with fail
  go_loop [5, 6] (fun kv i => ∃ j q : Nat, j ≤ l.length ∧ q ≤ j ∧ i = .int .i64 j ∧ kv = .int .i64 q ∧ Hid (q = named (l.take j))) (fun _ i => l.length - (intOf i).toNat)
  case atStart => exact ⟨0, 0, by omega, by omega, rfl, rfl, Lib.hid rfl⟩
  case round =>
    obtain ⟨j, q, hj, hqj, rfl, rfl, HQ⟩ := hrel
    by_cases hlt : j < l.length
    · obtain ⟨ab, ao, rfl, hab, hcs⟩ := HC.out (by omega)
      obtain ⟨e0, _⟩ := hcs j hlt
      have htk := named_take hlt
      have HM := Lib.hid (show l[j] ∈ l from List.getElem_mem hlt)
      generalize l[j] = p at e0 htk HM
      obtain ⟨fn, at_, n9, word, all⟩ := p
      simp only at e0 htk
      have HT := Lib.hid htk
      clear hcs htk
      by_cases q1 : 2 < fn
      · have HL := Lib.hid q1
        go_wp2_with fail
        go_ret
        exact ⟨true, rfl, rfl, fun _ => .inl ⟨_, HM.out, HL.out⟩⟩
      · by_cases q2 : 0 < fn
        · have hq := HT.out
          rw [if_pos q2] at hq
          have HQ2 := Lib.hid (show q + 1 = named (l.take (j + 1)) by rw [hq, ← HQ.out])
          clear hq HT
          go_wp2_with fail
          go_round
          case rel => exact ⟨j + 1, q + 1, by omega, by omega, by go_num, by go_num, HQ2⟩
          case measure => simp [intOf]; omega
        · have hq := HT.out
          rw [if_neg q2] at hq
          have HQ2 := Lib.hid (show q = named (l.take (j + 1)) by rw [hq, ← HQ.out]; rfl)
          clear hq HT
          go_wp2_with fail
          go_round
          case rel => exact ⟨j + 1, q, by omega, by omega, by go_num, rfl, HQ2⟩
          case measure => simp [intOf]; omega
    · have hall := HQ.out
      rw [List.take_of_length_le (by omega)] at hall
      have HA := Lib.hid hall
      clear hall
      obtain rfl : j = l.length := by omega
      by_cases q1 : q < n
      · have b1 : decide ((q : Int) < (n : Int)) = true := by rw [decide_eq_true_eq]; omega
        have HL := Lib.hid q1
        go_wp2_with fail
        go_ret
        exact ⟨true, rfl, rfl, fun _ => .inr (by rw [← HA.out]; exact HL.out)⟩
      · have b1 : decide ((q : Int) < (n : Int)) = false := by rw [decide_eq_false_iff_not]; omega
        go_wp2_with fail
        go_ret
        exact K.SomeBool.no
end Go.Proofs.YtocfcajafkkhdaaDoor
