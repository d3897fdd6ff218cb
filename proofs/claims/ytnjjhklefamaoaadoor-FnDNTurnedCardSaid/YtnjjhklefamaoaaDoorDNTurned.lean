/-
  FnDNTurned holds: a name whose types' letters are turned and whose parts' attributes are turned about is the same name.
-/
import Derived.Test.YtnjjhklefamaoaaDoorSRead
import Derived.Test.YtnjjhklefamaoaaDoorBytes
import Derived.Test.YtnjjhklefamaoaaDoorOnce
import Derived.Test.YtnjjhklefamaoaaDoorWrap
import Derived.Test.YtnjjhklefamaoaaDoorAwake
import Derived.Test.YtnjjhklefamaoaaDoorCards
import Derived.Test.YtnjjhklefamaoaaDoorTie
import Derived.Deep.DeepHandedRow
import Derived.Deep.DeepWitnessRowRef
import Derived.LaidMore
import Derived.LaidHandle
import Derived.Lay
namespace Go.Proofs.YtnjjhklefamaoaaDoor.turned
open Go.ChangeShapes Go.WideShapes Go.ChangeAt Go.RowKit
open K (Yes)
open Dn (Attr Name)
attribute [local go_sem ↓] Go.wp_at_zero Go.wp_at_succ

/-- the attributes of a part from number a on, turned, the last one first -/
def partT (up : Bool) (l : List Attr) (a : Nat) : List Attr := (l.drop a).reverse.map (Dn.turnA up)
theorem partT_all (up : Bool) (l : List Attr) : partT up l l.length = [] := by simp [partT]
theorem partT_zero (up : Bool) (l : List Attr) : partT up l 0 = Dn.turnR up l := by simp [partT, Dn.turnR]
theorem partT_step (up : Bool) (l : List Attr) (a : Nat) (h : a < l.length) : partT up l a = partT up l (a + 1) ++ [Dn.turnA up (atA l a)] := by
  unfold partT
  rw [List.drop_eq_getElem_cons h, List.reverse_cons, List.map_append]
  rw [show atA l a = l[a] from by simp [atA, h]]
  rfl
theorem partT_length (up : Bool) (l : List Attr) (a : Nat) : (partT up l a).length = l.length - a := by simp [partT]
def nameT (up : Bool) (l : Name) (k : Nat) : Name := Dn.turnN up (l.take k)
theorem nameT_step (up : Bool) (l : Name) (k : Nat) (h : k < l.length) : nameT up l (k + 1) = nameT up l k ++ [Dn.turnR up (Dn.at' l k)] := by
  unfold nameT Dn.turnN
  rw [List.take_succ_eq_append_getElem h, List.map_append]
  rw [show Dn.at' l k = l[k] from by simp [Dn.at', h]]
  rfl
theorem nameT_all (up : Bool) (l : Name) : nameT up l l.length = Dn.turnN up l := by simp [nameT]
theorem nameT_length (up : Bool) (l : Name) (k : Nat) (h : k ≤ l.length) : (nameT up l k).length = k := by simp [nameT, Dn.turnN]; omega

def mixT (up : Bool) (l : List UInt8) (j : Nat) : List UInt8 := (l.take j).map (Dn.turnB up) ++ l.drop j
theorem mixT_length (up : Bool) (l : List UInt8) (j : Nat) : (mixT up l j).length = l.length := by simp [mixT]; omega
theorem mixT_zero (up : Bool) (l : List UInt8) : mixT up l 0 = l := by simp [mixT]
theorem mixT_all (up : Bool) (l : List UInt8) : mixT up l l.length = l.map (Dn.turnB up) := by simp [mixT]
theorem mixT_at (up : Bool) (l : List UInt8) (j : Nat) (h : j < l.length) : (mixT up l j)[j]? = some l[j] := by
  unfold mixT
  rw [List.getElem?_append_right (by simp; omega)]
  simp [h, Nat.min_eq_left (Nat.le_of_lt h)]
theorem mixT_step (up : Bool) (l : List UInt8) (j : Nat) (h : j < l.length) : mixT up l (j + 1) = (mixT up l j).set j (Dn.turnB up l[j]) := by
  unfold mixT
  have e : (l.drop j).set 0 (Dn.turnB up l[j]) = Dn.turnB up l[j] :: l.drop (j + 1) := by rw [List.drop_eq_getElem_cons h]; rfl
  rw [List.set_append_right _ _ (by simp; omega), List.take_succ_eq_append_getElem h, List.map_append, List.append_assoc]
  simp [Nat.min_eq_left (Nat.le_of_lt h), e]
theorem mixT_stay (up : Bool) (l : List UInt8) (j : Nat) (h : j < l.length) (e : Dn.turnB up l[j] = l[j]) : mixT up l (j + 1) = mixT up l j := by
  unfold mixT
  rw [List.take_succ_eq_append_getElem h, List.map_append, List.append_assoc, List.drop_eq_getElem_cons h]
  simp [e]
theorem turn_up (c : UInt8) (h : 97 ≤ c.toNat ∧ c.toNat ≤ 122) : ((Dn.turnB true c).toNat : Int) = (c.toNat : Int) - 32 := by
  have : ∀ n : _root_.Fin 256, (97 ≤ n.val ∧ n.val ≤ 122) → ((Dn.turnB true (UInt8.ofNat n.val)).toNat : Int) = ((UInt8.ofNat n.val).toNat : Int) - 32 := by decide +kernel
  have h2 := this ⟨c.toNat, c.toNat_lt⟩ h
  simpa using h2
theorem turn_up_not (c : UInt8) (h : ¬ (97 ≤ c.toNat ∧ c.toNat ≤ 122)) : Dn.turnB true c = c := by
  have : ∀ n : _root_.Fin 256, ¬ (97 ≤ n.val ∧ n.val ≤ 122) → Dn.turnB true (UInt8.ofNat n.val) = UInt8.ofNat n.val := by decide +kernel
  have h2 := this ⟨c.toNat, c.toNat_lt⟩ h
  simpa using h2
theorem turn_low (c : UInt8) (h : 65 ≤ c.toNat ∧ c.toNat ≤ 90) : ((Dn.turnB false c).toNat : Int) = (c.toNat : Int) + 32 := by
  have : ∀ n : _root_.Fin 256, (65 ≤ n.val ∧ n.val ≤ 90) → ((Dn.turnB false (UInt8.ofNat n.val)).toNat : Int) = ((UInt8.ofNat n.val).toNat : Int) + 32 := by decide +kernel
  have h2 := this ⟨c.toNat, c.toNat_lt⟩ h
  simpa using h2
theorem turn_low_not (c : UInt8) (h : ¬ (65 ≤ c.toNat ∧ c.toNat ≤ 90)) : Dn.turnB false c = c := by
  have : ∀ n : _root_.Fin 256, ¬ (65 ≤ n.val ∧ n.val ≤ 90) → Dn.turnB false (UInt8.ofNat n.val) = UInt8.ofNat n.val := by decide +kernel
  have h2 := this ⟨c.toNat, c.toNat_lt⟩ h
  simpa using h2

theorem few_turn (up : Bool) {l : Name} (h : Few l) : Few (Dn.turnN up l) := by
  intro x hx
  obtain ⟨y, hy, rfl⟩ := List.mem_map.mp hx
  have := h y hy
  refine ⟨by simp [Dn.turnR]; exact this.1, by simp [Dn.turnR]; exact this.2.1, ?_⟩
  intro z hz
  obtain ⟨q, hq, rfl⟩ := List.mem_map.mp hz
  have h2 := this.2.2 q (List.mem_reverse.mp hq)
  exact ⟨by rw [← K.bsize]; simp [Dn.turnA]; exact h2.1, h2.2⟩
theorem brief_turn (up : Bool) {l : Name} (h : Brief l) : Brief (Dn.turnN up l) := ⟨by simp [Dn.turnN]; exact h.1, few_turn up h.2⟩
theorem fit_turn (up : Bool) {l : Name} (h : Few l) : ∀ x ∈ Dn.turnN up l, Fit x := by
  intro x hx a ha
  have := (few_turn up h x hx).2.2 a ha
  unfold maxLen
  omega

set_option maxHeartbeats 40000000 in
set_option maxRecDepth 100000 in
theorem law_any (v1 : Value) (up : Bool) (l : Name) (w : World) (ha : NamesV w v1 l) : Calls Tryd.prog 5 #[v1, .bool up] w (Yes w) := by
  have HV := Lib.hid ha
  obtain ⟨A, n, cap, rfl, _, _, hA⟩ := ha
  have HA := Lib.hid hA
  have HB0 := Lib.hid (Below.refl w.heap.size w)
  clear hA
  obtain ⟨i2, hi2, hz20, hz21, hz22⟩ := info_parts info32
  obtain ⟨i3, hi3, hz30, hz31, hz32⟩ := info_parts info30
  go_enter Tryd.func5, Tryd.ntmps5
  go_wp2_with fail
  refine (zzFits3_any _ l _ (HV.out.below HB0.out)).mono ?_
  rintro e w1 ⟨b1, rfl, hb, hp⟩
  have HB1 := Lib.hid (HB0.out.trans (hb.mono HB0.out.size))
  clear hb hp
  cases b1 with
  | false =>
    go_wp2_with fail
    go_ret
    exact ⟨rfl, HB1.out⟩
  | true =>
    go_wp2_with fail
    refine (names_any _ l _ (HV.out.below HB1.out)).mono ?_
    rintro e w2 ⟨b2, rfl, hb, hp⟩
    have HB2 := Lib.hid (HB1.out.trans (hb.mono HB1.out.size))
    have HP2 := Lib.hid hp
    clear hb hp
    cases b2 with
    | false =>
      go_wp2_with fail
      refine (awake_any _).mono ?_
      rintro e w5 ⟨rfl, hb⟩
      have HB5 := Lib.hid (HB2.out.trans (hb.mono HB2.out.size))
      clear hb
      go_wp2_with fail
      go_ret
      exact ⟨rfl, HB5.out⟩
    | true =>
      have NA := Lib.hid (HP2.out (by trivial))
      have hn6 : n ≤ 6 := by rw [← HA.out.1]; exact NA.out.1
      clear HP2
      go_wp2_with fail
      go_loopg [6, 5, 7, 8, 9, 10, 11] (n + 1) (fun gk i x _ _ _ _ _ wr => ∃ (k : Nat) (u : Value) (vs : List Value), u = x ∧ k ≤ n ∧ gk = n + 1 - k ∧ i = .int .i64 k ∧ Hid (MemP w2 wr wr u vs (nameT up l k) (.slice none 0 0) []))
      case atStart => exact ⟨0, _, [], rfl, by omega, by omega, rfl, Lib.hid (MemP.start w2)⟩
      case round =>
        obtain ⟨k, u, vs, rfl, hk, hg, rfl, HM⟩ := hrel
        have HG := Lib.hid HM.out.grew
        by_cases hlt : k < n
        · obtain ⟨b1, o1, rfl, hlb, hc1⟩ := HA.out.2 (by omega)
          obtain ⟨x1, c1', hx1⟩ := hc1 k hlt
          have C1 := Lib.hid ((HB2.out.cell (p := ⟨b1, o1 + k, none⟩) hlb).trans c1')
          have c1 := HG.out.cell C1.out
          obtain ⟨B1, m, k1, rfl, _, _, ha1, _⟩ := hx1
          have HA1 := Lib.hid (ha1.below HB2.out)
          have hm := NA.out.2.1 _ (at_mem (l := l) (k := k) (by rw [HA.out.1]; exact hlt))
          have hm4 : m ≤ 4 := by rw [← HA1.out.1]; exact hm.2.1
          have HS := Lib.hid hm.2.2
          have b0 : (0 : Int) ≤ (k : Int) := by omega
          have b3 : (k : Int) < (n : Int) := by omega
          clear hc1 c1' ha1 hm
          go_wp2_with fail
          obtain ⟨wp, hwp⟩ : ∃ wp : World, wp = wr := ⟨_, rfl⟩
          subst hwp
          have HM0 := Lib.hid (show MemP w2 wp wp u vs (nameT up l k) (.slice none 0 0) (partT up (Dn.at' l k) m) from by
            rw [← HA1.out.1, partT_all]; exact HM.out)
          clear c1
          go_loopg [8, 7, 9, 10, 11] (m + 1) (fun ga i x _ _ _ wr => ∃ (a : Nat) (v : Value), v = x ∧ a ≤ m ∧ ga = a + 1 ∧ i = .int .i64 a ∧ Hid (MemP w2 wp wr u vs (nameT up l k) v (partT up (Dn.at' l k) a)))
          case atStart => exact ⟨m, _, rfl, by omega, by omega, rfl, HM0⟩
          case round =>
            obtain ⟨a, v, rfl, ha, hga, rfl, HMI⟩ := hrel
            have HGI := Lib.hid HMI.out.grew
            by_cases hpos : 0 < a
            · obtain ⟨c, rfl⟩ : ∃ c, a = c + 1 := ⟨a - 1, by omega⟩
              obtain ⟨d1, p1, rfl, hld, he1⟩ := HA1.out.2 (by omega)
              have c1 := HGI.out.cell C1.out
              have e1 := HGI.out.cell (he1 c (by omega)).1
              have e2 := HGI.out.cell (he1 c (by omega)).2
              have hsm := HS.out _ (atA_mem (l := Dn.at' l k) (k := c) (by rw [HA1.out.1]; omega))
              have HST := Lib.hid (partT_step up (Dn.at' l k) c (by rw [HA1.out.1]; omega))
              have b4 : (0 : Int) ≤ (c : Int) := by omega
              have b5 : (c : Int) < (m : Int) := by omega
              have b6 : ((c + 1 : Nat) : Int) - 1 = (c : Int) := by omega
              have b7 : ((c + 1 : Nat) : Int) > 0 := by omega
              have b8 : IntKind.i64.wrap (c : Int) = (c : Int) := by exact IntWalk.i64_in _ (by omega)
              clear he1
              generalize atA (Dn.at' l k) c = at1 at *
              obtain ⟨q1, q2⟩ := at1
              simp only at e1 e2 hsm
              have hW := (Below.refl wr.heap.size wr).alloc (Nat.le_refl _) (.cells #[.string q1, .string q2] 32)
              have hX : (wr.alloc (.cells #[.string q1, .string q2] 32)).heap[wr.heap.size]? = some (.cells #[.string q1, .string q2] 32) := K.heap_alloc_at _ _
              have hs0 : (wr.alloc (.cells #[.string q1, .string q2] 32)).heap.size = wr.heap.size + 1 := by simp
              have hcv := conv33 (wr.alloc (.cells #[.string q1, .string q2] 32)) q1
              have hbr := ByteRow.new (wr.alloc (.cells #[.string q1, .string q2] 32)) q1
              have hbb := below33 (B := wr.heap.size) (wr.alloc (.cells #[.string q1, .string q2] 32)) (by omega) q1
              have hbo := Lib.bytesWorld_at_old (wr.alloc (.cells #[.string q1, .string q2] 32)) 5 q1 wr.heap.size (by omega)
              have hcap : q1.size ≤ grownCap (wr.alloc (.cells #[.string q1, .string q2] 32)) q1.size 0 5 := grownCap_ge _ _ _ _
              rw [hs0] at hcv hbr
              have HBW := Lib.hid (And.intro (hW.trans hbb) (And.intro (hbo.trans hX) hbr))
              clear hW hX hbr hbb hbo
              generalize grownCap (wr.alloc (.cells #[.string q1, .string q2] 32)) q1.size 0 5 = cpb at hcv hcap
              go_wp2_with fail
              have hq12 : q1.size ≤ 12 := hsm.1
              have HBI := Lib.hid HBW.out
              generalize Lib.bytesWorld (wr.alloc (.cells #[.string q1, .string q2] 32)) 5 q1 = wb at HBI ⊢
              clear hcv c1 e1 e2 HBW
              obtain ⟨wo, hwo⟩ : ∃ wo : World, wo = wr := ⟨_, rfl⟩
              subst hwo
              go_loopg [11] (q1.size + 1) (fun g3 i3 wi => ∃ j : Nat, j ≤ q1.size ∧ g3 = q1.size + 1 - j ∧ i3 = .int .i64 j ∧ Hid (Below wo.heap.size wo wi ∧ wi.heap[wo.heap.size]? = some (.cells #[.string q1, .string q2] 32) ∧ ByteRow wi (wo.heap.size + 1) (mixT up q1.data.toList j)))
              case atStart => exact ⟨0, by omega, by omega, rfl, Lib.hid ⟨HBI.out.1, HBI.out.2.1, by rw [mixT_zero]; exact HBI.out.2.2⟩⟩
              case round =>
                obtain ⟨j, hj, hg3, rfl, HJ⟩ := hrel
                by_cases hjq : j < q1.size
                · have hjl : j < q1.data.toList.length := by rw [K.bsize]; exact hjq
                  have hx0 := HJ.out.2.2.cell (mixT_at up q1.data.toList j hjl)
                  have hfz := HJ.out.2.2.fz (j := j) (by rw [mixT_length]; exact hjl)
                  obtain ⟨c, hc⟩ : ∃ c, q1.data.toList[j] = c := ⟨_, rfl⟩
                  rw [hc] at hx0
                  have HC := Lib.hid hc
                  have hc8 := c.toNat_lt
                  have g1 : (0 : Int) ≤ (j : Int) := by omega
                  have g2 : (j : Int) < (q1.size : Int) := by omega
                  clear hc
                  cases up with
                  | true =>
                    by_cases hin : 97 ≤ c.toNat ∧ c.toNat ≤ 122
                    · have HT := Lib.hid (turn_up c hin)
                      obtain ⟨f1', f2'⟩ := hin
                      have f1 : (97 : Int) ≤ (c.toNat : Int) := by omega
                      have f2 : (c.toNat : Int) ≤ 122 := by omega
                      have f3 : IntKind.u8.wrap ((c.toNat : Int) - 32) = (c.toNat : Int) - 32 := by exact IntWalk.u8_in _ (by omega)
                      clear f1' f2'
                      go_wp2_with fail
                      go_roundg (q1.size - j)
                      case measure => omega
                      case rel =>
                        refine ⟨j + 1, by omega, by omega, by go_num, Lib.hid ⟨HJ.out.1.setCell (by simp) _, ?_, ?_⟩⟩
                        · rw [Below.heap_setCell _ _ _ _ (by simp)]; exact HJ.out.2.1
                        · rw [mixT_step _ _ _ hjl, HC.out, ← HT.out]; exact HJ.out.2.2.set _
                    · have HT := Lib.hid (turn_up_not c hin)
                      rcases (show c.toNat < 97 ∨ 122 < c.toNat from by omega) with f | f
                      all_goals
                        have f1 : (c.toNat : Int) < 97 ∨ (122 : Int) < (c.toNat : Int) := by omega
                        clear hin
                        go_wp2_with fail
                        go_roundg (q1.size - j)
                        case measure => omega
                        case rel => exact ⟨j + 1, by omega, by omega, by go_num, Lib.hid ⟨HJ.out.1, HJ.out.2.1, by rw [mixT_stay _ _ _ hjl (by rw [HC.out]; exact HT.out)]; exact HJ.out.2.2⟩⟩
                  | false =>
                    by_cases hin : 65 ≤ c.toNat ∧ c.toNat ≤ 90
                    · have HT := Lib.hid (turn_low c hin)
                      obtain ⟨f1', f2'⟩ := hin
                      have f1 : (65 : Int) ≤ (c.toNat : Int) := by omega
                      have f2 : (c.toNat : Int) ≤ 90 := by omega
                      have f3 : IntKind.u8.wrap ((c.toNat : Int) + 32) = (c.toNat : Int) + 32 := by exact IntWalk.u8_in _ (by omega)
                      clear f1' f2'
                      go_wp2_with fail
                      go_roundg (q1.size - j)
                      case measure => omega
                      case rel =>
                        refine ⟨j + 1, by omega, by omega, by go_num, Lib.hid ⟨HJ.out.1.setCell (by simp) _, ?_, ?_⟩⟩
                        · rw [Below.heap_setCell _ _ _ _ (by simp)]; exact HJ.out.2.1
                        · rw [mixT_step _ _ _ hjl, HC.out, ← HT.out]; exact HJ.out.2.2.set _
                    · have HT := Lib.hid (turn_low_not c hin)
                      rcases (show c.toNat < 65 ∨ 90 < c.toNat from by omega) with f | f
                      all_goals
                        have f1 : (c.toNat : Int) < 65 ∨ (90 : Int) < (c.toNat : Int) := by omega
                        clear hin
                        go_wp2_with fail
                        go_roundg (q1.size - j)
                        case measure => omega
                        case rel => exact ⟨j + 1, by omega, by omega, by go_num, Lib.hid ⟨HJ.out.1, HJ.out.2.1, by rw [mixT_stay _ _ _ hjl (by rw [HC.out]; exact HT.out)]; exact HJ.out.2.2⟩⟩
                · obtain rfl : j = q1.size := by omega
                  have HMJ := Lib.hid (HMI.out.move HJ.out.1)
                  have HW := Lib.hid HMJ.out.2.2.2.2
                  have hcv := HJ.out.2.2.conv (n := q1.size) (cap := cpb) (by rw [mixT_length, K.bsize])
                  have hx1 : wr.cell? ⟨wo.heap.size, 1, none⟩ = some (.string q2) := by simp [World.cell?, HJ.out.2.1]
                  have hpl : (partT up (Dn.at' l k) (c + 1)).length ≤ 4 := by rw [partT_length, HA1.out.1]; omega
                  have hwl : wp.heap.size ≤ wr.heap.size := Below.size HMJ.out.2.1
                  have HTA := Lib.hid (show (⟨(mixT up q1.data.toList q1.size).toArray⟩ : ByteArray) = (Dn.turnA up (q1, q2)).1 from by rw [← K.bsize q1, mixT_all]; rfl)
                  rw [HTA.out] at hcv
                  obtain ⟨tq, htq⟩ : ∃ tq, (Dn.turnA up (q1, q2)).1 = tq := ⟨_, rfl⟩
                  rw [htq] at hcv
                  have HTQ := Lib.hid (show Dn.turnA up (q1, q2) = (tq, q2) from by rw [← htq]; rfl)
                  clear htq
                  go_wp2_with (at_builtin; refine Hid.out ?_)
                  refine Lib.hid ?_
                  refine wpList_append_lies _ rfl _ _ _ rfl wp.heap.size 32 i2 _ 2 32 Tryd.underlying30 hi2 hz20 hz21 hz22 rfl (by omega) v (partT up (Dn.at' l k) (c + 1)).length (cellsA (partT up (Dn.at' l k) (c + 1))) rfl (HW.out.alloc _) ⟨wr.heap.size, 0, none⟩ 1 1 [.string tq, .string q2] rfl rfl (World.news_of_block (cs := #[.string tq, .string q2]) (t := 32) (fr := (0, 0)) (new _ _ rfl)) (by simp [Value.oneCell']) (by omega) (by unfold maxLen; omega) (by omega) (by simp; omega) (wr.heap.size + 1) (by simp) ?_
                  intro gg cp w4 hown1 hgrow hat hlt1
                  have HM2 := Lib.hid (HMJ.out.push (a := (tq, q2)) hown1 hgrow)
                  clear hown1 hgrow hat hlt1
                  go_wp2_with fail
                  go_roundg (c + 1)
                  case measure => omega
                  case rel => exact ⟨c, _, rfl, by omega, rfl, by go_num, by rw [HST.out, HTQ.out]; exact HM2⟩
            · obtain rfl : a = 0 := by omega
              obtain ⟨vA, vm, vc, rfl⟩ : ∃ A m c, v = .slice A m c := by
                rcases HMI.out.2.2.2.2.2 with ⟨h1, h2⟩ | ⟨g, c, cur, h1, _⟩
                · exact ⟨none, 0, 0, h1⟩
                · exact ⟨_, _, c, h1⟩
              have HU := Lib.hid HMI.out.own
              have hnl : (nameT up l k).length = k := nameT_length up l k (by rw [HA.out.1]; omega)
              have hwl : w2.heap.size ≤ wr.heap.size := Below.size HGI.out
              have HNT := Lib.hid (nameT_step up l k (by rw [HA.out.1]; exact hlt))
              go_wp2_with (at_builtin; refine Hid.out ?_)
              refine Lib.hid ?_
              refine wpList_append_lies _ rfl _ _ _ rfl w2.heap.size 30 i3 _ 1 24 Tryd.underlying23 hi3 hz30 hz31 hz32 rfl (by omega) u (nameT up l k).length vs rfl (HU.out.alloc _) ⟨wr.heap.size, 0, none⟩ 1 1 [.slice vA vm vc] rfl rfl (World.news_of_block (cs := #[.slice vA vm vc]) (t := 30) (fr := (0, 0)) (new _ _ rfl)) (by simp [Value.oneCell']) (by omega) (by unfold maxLen; omega) (by omega) (by simp; omega) (wr.heap.size + 1) (by simp) ?_
              intro g3 c3 w3 hown3 hgrow3 hat3 hlt3
              have HM3 := Lib.hid (HMI.out.next hown3 hgrow3)
              clear hown3 hgrow3 hat3 hlt3
              clear hnl
              go_wp2_with fail
              go_roundg (n - k)
              case measure => omega
              case rel => exact ⟨k + 1, _, _, rfl, by omega, by omega, by go_num, by rw [HNT.out, ← partT_zero]; exact HM3⟩
        · obtain rfl : k = n := by omega
          have HTN := Lib.hid (show nameT up l k = Dn.turnN up l from by rw [← HA.out.1]; exact nameT_all up l)
          have HU := Lib.hid (show NamesV wr u (Dn.turnN up l) from by rw [← HTN.out]; exact HM.out.read (by rw [HTN.out]; exact fit_turn up NA.out.2.1))
          have HBR := Lib.hid (And.intro (show Brief l from ⟨NA.out.1, NA.out.2.1⟩) (brief_turn up ⟨NA.out.1, NA.out.2.1⟩))
          have HB3 := Lib.hid (HB2.out.trans (HG.out.mono HB2.out.size))
          have HV3 := Lib.hid (HV.out.below HB3.out)
          have HB4 := Lib.hid (Below.refl wr.heap.size wr)
          clear HM HTN HG
          go_wp2_with fail
          have h14 := equalDN_any _ u l (Dn.turnN up l) wr (HV3.out.below HB4.out) (HU.out.below HB4.out) HBR.out.1 HBR.out.2
          rw [Dn.eq_turn] at h14
          refine h14.mono ?_
          rintro e w3 ⟨rfl, hb⟩
          have HB5 := Lib.hid (HB4.out.trans (hb.mono HB4.out.size))
          clear hb h14
          go_wp2_with fail
          have h14 := equalDN_any u _ (Dn.turnN up l) l w3 (HU.out.below HB5.out) (HV3.out.below HB5.out) HBR.out.2 HBR.out.1
          rw [Dn.eq_turn'] at h14
          refine h14.mono ?_
          rintro e w4 ⟨rfl, hb⟩
          have HB6 := Lib.hid (HB5.out.trans (hb.mono HB5.out.size))
          clear hb h14
          go_wp2_with fail
          refine (once_any _ l _ (HV3.out.below HB6.out) HBR.out.1.2 HBR.out.1.1).mono ?_
          rintro e w5 ⟨b5, rfl, hb, hp⟩
          have HB7 := Lib.hid (HB6.out.trans (hb.mono HB6.out.size))
          have HP := Lib.hid hp
          clear hb hp
          cases b5 with
          | false =>
            go_wp2_with fail
            refine (awake_any _).mono ?_
            rintro e w7 ⟨rfl, hb⟩
            have HB9 := Lib.hid (HB7.out.trans (hb.mono HB7.out.size))
            clear hb
            go_wp2_with fail
            go_ret
            exact ⟨rfl, HB3.out.trans (HB9.out.mono HB3.out.size)⟩
          | true =>
            go_wp2_with fail
            refine (matchDN_any _ u l (Dn.turnN up l) _ (HV3.out.below HB7.out) (HU.out.below HB7.out) HBR.out.1 HBR.out.2 (by simp [Dn.turnN]) (Lib.hid (Dn.turned_one (HP.out trivial)))).mono ?_
            rintro e w6 ⟨rfl, hb⟩
            have HB8 := Lib.hid (HB7.out.trans (hb.mono HB7.out.size))
            clear hb
            go_wp2_with fail
            refine (awake_any _).mono ?_
            rintro e w7 ⟨rfl, hb⟩
            have HB9 := Lib.hid (HB8.out.trans (hb.mono HB8.out.size))
            clear hb
            go_wp2_with fail
            go_ret
            exact ⟨rfl, HB3.out.trans (HB9.out.mono HB3.out.size)⟩

theorem own : ownKnob Tryd.prog.godebug = none := by kernel_rfl
theorem laidOut : laidOutB Tryd.prog = true := by kernel_rfl

theorem door_met (os : Os) (args : Array Value) : laidMetH Tryd.prog Rows.fnDNTurnedRow.laid ((World.doorLaid Tryd.prog 95 os).forCall (fun _ _ => 0) ⟨#[], args, []⟩).memory := 
  laidMetH_of_parts3 (fuel := 8) (laidMet_of_run' 8 (by kernel_rfl) (by kernel_rfl)) (by kernel_rfl) (by kernel_rfl)
set_option maxRecDepth 100000 in
theorem reads (os : Os) {H : Type} (enc : TypeId × Value → H) : ∃ places, DataW.whole enc Tryd.prog ((World.doorLaid Tryd.prog 95 os).forCall (fun _ _ => 0) ⟨#[], #[.slice none 0 0, .bool false], []⟩).memory Tryd.f5.params.toList Rows.fnDNTurnedSpec.vars false (#[.slice none 0 0, .bool false] : Array Value).toList 8 = some ([.nil, .lit (.bool false)], [], places) :=
  ⟨[], by kernel_rfl⟩

set_option maxRecDepth 100000 in
theorem contract (H : Type) (enc : TypeId × Value → H) (W : World) (args : Array Value) (ds gs : List (DataW H)) (before : List MemPlace)
    (hval : ∀ (j : Nat) t v, Tryd.f5.params[j]? = some t → args[j]? = some v → Value.okWide Tryd.prog W .any 0 t v)
    (hW : DataW.Whole enc Tryd.prog Tryd.f5.params.toList Rows.fnDNTurnedSpec.vars false W args.toList ds gs before) (_hL : laidMetH Tryd.prog Rows.fnDNTurnedRow.laid W) :
    Calls Tryd.prog 5 args W fun e W' => ∃ v, e = .returned v ∧ Rows.fnDNTurnedSpec.post enc Tryd.prog Tryd.f5 false true false false W args v W' := by
  have hW' := hW
  obtain ⟨p, q, hA0, hV, rfl, hfz, hnd⟩ := hW
  have hA : DataW.TrodAll enc Tryd.prog W 0 (fun _ => true) true Tryd.f5.params.toList args.toList ds p := hA0
  rw [Tryd.params5] at hA hval
  obtain ⟨v0, vs0, d0, ds0, p0, q0, hargs, rfl, rfl, h0, r0⟩ := trodAll_cons hA
  obtain ⟨v1, vs1, d1, ds1, p1, q1, rfl, rfl, rfl, h1, r1⟩ := trodAll_cons r0
  obtain ⟨rfl, rfl, rfl⟩ := trodAll_nil r1
  obtain rfl : args = #[v0, v1] := by cases args; simp_all
  obtain ⟨rfl, rfl⟩ := trodVars_none hV
  obtain ⟨a, ha⟩ := open_names Tryd.underlying23 (by kernel_rfl) Tryd.underlying30 Tryd.underlying32 rfl rfl Tryd.underlying9 (by kernel_rfl) (by kernel_rfl) (fun _ => rfl) (hval 0 23 v0 rfl rfl) h0
  obtain ⟨b, rfl, rfl, rfl⟩ := open_bool Tryd.underlying4 (hval 1 4 v1 rfl rfl) h1
  refine (law_any _ b a W ha).mono fun e W' ⟨hE, hg⟩ => ?_
  subst hE
  exact ⟨_, rfl, K.post_law (tb := 4) laidOut Tryd.underlying4 rfl (by kernel_rfl) rfl rfl (fun W => ok_one (by kernel_rfl) rfl (okWide_bool_mk Tryd.underlying4 _)) hW' hg⟩

set_option maxRecDepth 100000 in
theorem lifted (os : Os) (started : os.Started) (H : Type) (enc : TypeId × Value → H) (F : Stop.Interp) :
    ReturnsInHanded {} Tryd.checked os 5 .any ((OpenSpec.ofChange Rows.fnDNTurnedSpec).preRow enc Tryd.prog Tryd.f5 Rows.fnDNTurnedRow.domain false Rows.fnDNTurnedRow.laid) (((OpenSpec.ofChange Rows.fnDNTurnedSpec).at F).post enc Tryd.prog Tryd.f5 false true false false) := by
  obtain ⟨places, hx⟩ := reads os enc
  refine returnsInHanded_of_row (C := Tryd.checked) (s := OpenSpec.ofChange Rows.fnDNTurnedSpec) own started (by kernel_rfl) Tryd.func5
    (witness_row_atRef (enc := enc) (C := Tryd.checked) false (World.doorLaid Tryd.prog 95 os) #[.slice none 0 0, .bool false] rfl (by kernel_rfl) (by kernel_rfl) (by kernel_rfl)
      (OpenSpec.preRow_of_cond 8 hx (by kernel_rfl) (fun k hk => by cases hk) (by kernel_rfl) (door_met os _))) ?_
  intro W base args ds gs before hval hW _ hcond _ hL _ _
  exact contract H enc W args ds gs before hval hW hL

theorem said : Rows.FnDNTurnedSaid :=
  OpenClaim.holds_of_cond 5 Tryd.f5 rfl rfl rfl rfl rfl rfl rfl ⟨rfl, rfl, rfl, rfl, rfl⟩ rfl rfl rfl rfl rfl (by kernel_rfl) Tryd.func5 (by kernel_rfl)
    (of_decide_eq_true (by kernel_rfl)) (by unfold Func.isWrapper; first | (rw [if_pos (by decide +kernel)]; kernel_rfl) | (rw [if_neg (by decide +kernel)]; exact ⟨rfl, rfl⟩))
    (fun os started H enc _ F => by rw [OpenClaim.pre_eq_preRow]; exact lifted os started H enc F)

theorem plain (f : FuncId) (fn : Func) (hf : Tryd.pinned.checked.prog.funcNamed "pub-streamkeep/laws.FnDNTurned" = some f) (hfn : Tryd.pinned.checked.prog.funcs[f]? = some fn) :
    false = Tryd.pinned.checked.prog.looks [] ∧ ∀ (j : Nat) t, fn.params[j]? = some t → Tryd.pinned.checked.prog.wantsStandIn t = false := by
  obtain rfl : f = 5 := Option.some.inj ((show Tryd.prog.funcNamed "pub-streamkeep/laws.FnDNTurned" = some 5 by kernel_rfl).symm.trans hf) |>.symm
  obtain rfl : fn = Tryd.f5 := (Option.some.inj (Tryd.func5.symm.trans hfn)).symm
  refine ⟨by kernel_rfl, fun j t ht => ?_⟩
  rw [Tryd.params5] at ht
  have hm : t ∈ [23, 4] := by simpa using Array.mem_of_getElem? ht
  have hall : ([23, 4].all fun u => !Tryd.prog.wantsStandIn u) = true := by kernel_rfl
  exact (show Tryd.prog.wantsStandIn t = false by simpa using List.all_eq_true.1 hall t hm)

/-- THE CARD. -/
theorem card : Rows.FnDNTurnedCardSaid :=
  Claim7.holds_tied_plain_at .later [] _ _ _ _ said (fun _ h => by cases h) (by kernel_rfl) (fun _ h => by cases h) fnDNTurned_row_tie rfl ⟨rfl, rfl⟩ (by kernel_rfl) rfl plain (by kernel_rfl)

end Go.Proofs.YtnjjhklefamaoaaDoor.turned
