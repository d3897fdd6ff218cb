/-
  FnConsumerTwice holds: a message that is acknowledged waits no more; acknowledged again it changes nothing. For all three numbers (no condition of ours).
-/
import Derived.Test.YtchphfdoneckeaaDoorDr
import Derived.Test.YtchphfdoneckeaaDoorLd
import Derived.Test.YtchphfdoneckeaaDoorCards
import Derived.Test.YtchphfdoneckeaaDoorTie
import Derived.Deep.DeepHandedRow
import Derived.Deep.DeepWitnessRowRef
import Derived.LaidMore
import Derived.LaidHandle
import Derived.Lay
namespace Go.Proofs.YtchphfdoneckeaaDoor.consumerTwice
open Go.ChangeShapes Go.WideShapes Go.ChangeAt Go.RowKit
open Cs (Wt Kp)
open K (Yes)

theorem load_keep {w : World} {b o : Nat} (k : Kp) (A : Option Addr) (c : Nat) (h : ∀ (r : Nat) (v : Value), (keepCells k A c)[r]? = some v → w.cell? ⟨b, o + r, none⟩ = some v) : (Instr.loadAt 31 (.pointer (some ⟨b, o, none⟩))).run Tryd.prog w = .ok (keepV k A c (.slice none 0 0)) w := by
  have hl : (loadCells ⟨b, o, none⟩ (keepCells k A c).length).run Tryd.prog w = .ok (keepCells k A c).toArray w :=
    run_loadCells_list (P := Tryd.prog) w ⟨b, o, none⟩ (keepCells k A c) (fun j v hv => by
      have hadd : (⟨b, o, none⟩ : Addr).add j = ⟨b, o + j, none⟩ := by unfold Addr.add; split <;> simp_all
      rw [hadd]
      exact h j v hv)
  have hlen : (keepCells k A c).length = 6 := rfl
  rw [hlen] at hl
  simp [Instr.loadAt, Instr.sureAddr, loadVar, Sem.run_bind, Tryd.isAgg31, Tryd.sizeOf31, hl, keepV, keepCells]

set_option maxRecDepth 100000 in
theorem away0 (m q t : Int) (te : TypeId) (ve : Value) (w : World) (hE : w.cell? ⟨1, 0, none⟩ = some (.iface te ve)) (h0 : m < 1) : Calls Tryd.prog 4 #[.int .i64 m, .int .i64 q, .int .i64 t] w (Yes w) := by
  have h8 := awake_any te ve w hE
  clear hE
  go_enter Tryd.func4, Tryd.ntmps4
  go_wp2_with fail
  refine h8.mono ?_
  rintro e w1 ⟨rfl, hb⟩
  have HB := Lib.hid hb
  clear hb h8
  go_wp2_with fail
  go_ret
  exact ⟨rfl, HB.out⟩
set_option maxRecDepth 100000 in
theorem away1 (m q t : Int) (te : TypeId) (ve : Value) (w : World) (hE : w.cell? ⟨1, 0, none⟩ = some (.iface te ve)) (h0 : ¬ m < 1) (h1 : 12 < m) : Calls Tryd.prog 4 #[.int .i64 m, .int .i64 q, .int .i64 t] w (Yes w) := by
  have h8 := awake_any te ve w hE
  clear hE
  go_enter Tryd.func4, Tryd.ntmps4
  go_wp2_with fail
  refine h8.mono ?_
  rintro e w1 ⟨rfl, hb⟩
  have HB := Lib.hid hb
  clear hb h8
  go_wp2_with fail
  go_ret
  exact ⟨rfl, HB.out⟩
set_option maxRecDepth 100000 in
theorem away2 (m q t : Int) (te : TypeId) (ve : Value) (w : World) (hE : w.cell? ⟨1, 0, none⟩ = some (.iface te ve)) (h0 : ¬ m < 1) (h1 : ¬ 12 < m) (h2 : q < 0) : Calls Tryd.prog 4 #[.int .i64 m, .int .i64 q, .int .i64 t] w (Yes w) := by
  have h8 := awake_any te ve w hE
  clear hE
  go_enter Tryd.func4, Tryd.ntmps4
  go_wp2_with fail
  refine h8.mono ?_
  rintro e w1 ⟨rfl, hb⟩
  have HB := Lib.hid hb
  clear hb h8
  go_wp2_with fail
  go_ret
  exact ⟨rfl, HB.out⟩
set_option maxRecDepth 100000 in
theorem away3 (m q t : Int) (te : TypeId) (ve : Value) (w : World) (hE : w.cell? ⟨1, 0, none⟩ = some (.iface te ve)) (h0 : ¬ m < 1) (h1 : ¬ 12 < m) (h2 : ¬ q < 0) (h3 : m ≤ q) : Calls Tryd.prog 4 #[.int .i64 m, .int .i64 q, .int .i64 t] w (Yes w) := by
  have h8 := awake_any te ve w hE
  clear hE
  go_enter Tryd.func4, Tryd.ntmps4
  go_wp2_with fail
  refine h8.mono ?_
  rintro e w1 ⟨rfl, hb⟩
  have HB := Lib.hid hb
  clear hb h8
  go_wp2_with fail
  go_ret
  exact ⟨rfl, HB.out⟩
set_option maxRecDepth 100000 in
theorem away4 (m q t : Int) (te : TypeId) (ve : Value) (w : World) (hE : w.cell? ⟨1, 0, none⟩ = some (.iface te ve)) (h0 : ¬ m < 1) (h1 : ¬ 12 < m) (h2 : ¬ q < 0) (h3 : ¬ m ≤ q) (h4 : t < 1) : Calls Tryd.prog 4 #[.int .i64 m, .int .i64 q, .int .i64 t] w (Yes w) := by
  have h8 := awake_any te ve w hE
  clear hE
  go_enter Tryd.func4, Tryd.ntmps4
  go_wp2_with fail
  refine h8.mono ?_
  rintro e w1 ⟨rfl, hb⟩
  have HB := Lib.hid hb
  clear hb h8
  go_wp2_with fail
  go_ret
  exact ⟨rfl, HB.out⟩
set_option maxRecDepth 100000 in
theorem away5 (m q t : Int) (te : TypeId) (ve : Value) (w : World) (hE : w.cell? ⟨1, 0, none⟩ = some (.iface te ve)) (h0 : ¬ m < 1) (h1 : ¬ 12 < m) (h2 : ¬ q < 0) (h3 : ¬ m ≤ q) (h4 : ¬ t < 1) (h5 : 1152921504606846976 < t) : Calls Tryd.prog 4 #[.int .i64 m, .int .i64 q, .int .i64 t] w (Yes w) := by
  have h8 := awake_any te ve w hE
  clear hE
  go_enter Tryd.func4, Tryd.ntmps4
  go_wp2_with fail
  refine h8.mono ?_
  rintro e w1 ⟨rfl, hb⟩
  have HB := Lib.hid hb
  clear hb h8
  go_wp2_with fail
  go_ret
  exact ⟨rfl, HB.out⟩
set_option maxHeartbeats 4000000 in
set_option maxRecDepth 100000 in
theorem main_any (n p : Nat) (t : Int) (te : TypeId) (ve : Value) (w : World) (hE : w.cell? ⟨1, 0, none⟩ = some (.iface te ve)) (h0 : ¬ (n : Int) < 1) (h1 : ¬ 12 < (n : Int)) (h2 : ¬ (p : Int) < 0) (h3 : ¬ (n : Int) ≤ (p : Int)) (h4 : ¬ t < 1) (h5 : ¬ 1152921504606846976 < t) :
    Calls Tryd.prog 4 #[.int .i64 (n : Int), .int .i64 (p : Int), .int .i64 t] w (Yes w) := by
  have HE := Lib.hid hE
  clear hE
  obtain ⟨i37, hi, hz, hs, hy⟩ := info37
  have HI := Lib.hid (And.intro hi (And.intro hz (And.intro hs hy)))
  clear hi hz hs hy
  go_enter Tryd.func4, Tryd.ntmps4
  go_wp2_with fail
  go_loopw [7, 8] (fun v i wr => ∃ j : Nat, j ≤ n ∧ i = .int .i64 (j : Int) ∧ Hid (wr.ownsRow w.heap.size 37 11 v j (ddCells (twD t n p) j) ∧ Below w.heap.size w wr)) (fun _ i _ => n - (intOf i).toNat)
  case atStart => exact ⟨0, by omega, rfl, Lib.hid ⟨World.ownsRow_nil _ _ _ _, Below.refl _ _⟩⟩
  case round =>
    obtain ⟨j, hj, rfl, HR⟩ := hrel
    by_cases hlt : j < n
    · have hj0 : (0 : Int) ≤ (j : Int) := by omega
      have hj1 : (j : Int) < (n : Int) := by omega
      have hj2 : (j : Int) ≤ 12 := by omega
      have hnw : (wr.alloc (.cells #[.int .i64 0, .int .u64 ((j : Int) + 1), .int .u64 ((j : Int) + 1), .int .u64 1, .int .i64 t, .int .u64 0, .int .u64 0, .int .u64 0, .int .u64 0, .slice none 0 0, .slice none 0 0] 37)).heap[wr.heap.size]? = _ := K.heap_alloc_at _ _
      have HNW := Lib.hid hnw
      have HRA := Lib.hid (HR.out.1.alloc (.cells #[.int .i64 0, .int .u64 ((j : Int) + 1), .int .u64 ((j : Int) + 1), .int .u64 1, .int .i64 t, .int .u64 0, .int .u64 0, .int .u64 0, .int .u64 0, .slice none 0 0, .slice none 0 0] 37))
      clear hnw
      go_wp2_with (at_builtin; refine wpList_append_lies _ rfl _ _ _ rfl w.heap.size 37 i37 (.agg #[.int .i64 0, .int .u64 0, .int .u64 0, .int .u64 0, .int .i64 0, .int .u64 0, .int .u64 0, .int .u64 0, .int .u64 0, .slice none 0 0, .slice none 0 0]) 11 120 Tryd.underlying34 HI.out.1 HI.out.2.1 HI.out.2.2.1 HI.out.2.2.2 rfl (by omega) u7 j (ddCells (twD t n p) j) rfl HRA.out ⟨wr.heap.size, 0, none⟩ 1 1 [.int .i64 0, .int .u64 ((j : Int) + 1), .int .u64 ((j : Int) + 1), .int .u64 1, .int .i64 t, .int .u64 0, .int .u64 0, .int .u64 0, .int .u64 0, .slice none 0 0, .slice none 0 0] rfl rfl (World.news_of_block HNW.out) (by simp [Value.oneCell']) (by omega) (by unfold maxLen; omega) (by omega) (by have := HR.out.2.size; simp; omega) _ rfl ?_; intro g3 cp3 w3 hown3 hgrow3 hat3 hlt3; have HF3 := Lib.hid (And.intro hown3 (And.intro hgrow3 hlt3)); clear hown3 hgrow3 hat3 hlt3)
      have hrow : [.int .i64 0, .int .u64 ((j : Int) + 1), .int .u64 ((j : Int) + 1), .int .u64 1, .int .i64 t, .int .u64 0, .int .u64 0, .int .u64 0, .int .u64 0, .slice none 0 0, .slice none 0 0] = (twD t n p j).row.toList := by simp [twD, hlt, Dd.row, dlvRow]
      have hfin : w3.ownsRow w.heap.size 37 11 (.slice (some ⟨g3, 0, none⟩) (j + 1) cp3) (j + 1) (ddCells (twD t n p) (j + 1)) ∧ Below w.heap.size w w3 := by
        refine ⟨by rw [ddCells_step, ← hrow]; exact HF3.out.1, (HR.out.2.alloc HR.out.2.size _).grown HF3.out.2.1 (by have := HR.out.2.size; simp; omega) (fun b hb => (own_blk HR.out.1 hb).1)⟩
      have HFIN := Lib.hid hfin
      clear hrow hfin
      go_roundw
      case rel => exact ⟨j + 1, by omega, by go_num, HFIN⟩
      case measure => simp [intOf]; omega
    · obtain rfl : j = n := by omega
      obtain ⟨g, cap, rfl, hcap, hgb, hgl, hcs⟩ := own_slice HR.out.1 (by omega)
      clear hcs
      have hnw : ((wr.alloc (.cells #[.int .i64 1, .int .u64 ((p : Int) + 1), .int .u64 ((p : Int) + 1), .int .u64 0, .int .i64 0, .int .u64 0, .int .u64 0, .int .u64 0, .int .u64 0, .slice none 0 0, .slice none 0 0] 37)).alloc (.cells #[.int .i64 1, .int .u64 ((p : Int) + 1), .int .u64 ((p : Int) + 1), .int .u64 0, .int .i64 0, .int .u64 0, .int .u64 0, .int .u64 0, .int .u64 0, .slice none 0 0, .slice none 0 0, .int .i64 1, .int .u64 ((p : Int) + 1), .int .u64 ((p : Int) + 1), .int .u64 0, .int .i64 0, .int .u64 0, .int .u64 0, .int .u64 0, .int .u64 0, .slice none 0 0, .slice none 0 0] 37)).heap[wr.heap.size + 1]? = some (.cells #[.int .i64 1, .int .u64 ((p : Int) + 1), .int .u64 ((p : Int) + 1), .int .u64 0, .int .i64 0, .int .u64 0, .int .u64 0, .int .u64 0, .int .u64 0, .slice none 0 0, .slice none 0 0, .int .i64 1, .int .u64 ((p : Int) + 1), .int .u64 ((p : Int) + 1), .int .u64 0, .int .i64 0, .int .u64 0, .int .u64 0, .int .u64 0, .int .u64 0, .slice none 0 0, .slice none 0 0] 37 (0, 0)) := by
        have := K.heap_alloc_at (wr.alloc (.cells #[.int .i64 1, .int .u64 ((p : Int) + 1), .int .u64 ((p : Int) + 1), .int .u64 0, .int .i64 0, .int .u64 0, .int .u64 0, .int .u64 0, .int .u64 0, .slice none 0 0, .slice none 0 0] 37)) (.cells #[.int .i64 1, .int .u64 ((p : Int) + 1), .int .u64 ((p : Int) + 1), .int .u64 0, .int .i64 0, .int .u64 0, .int .u64 0, .int .u64 0, .int .u64 0, .slice none 0 0, .slice none 0 0, .int .i64 1, .int .u64 ((p : Int) + 1), .int .u64 ((p : Int) + 1), .int .u64 0, .int .i64 0, .int .u64 0, .int .u64 0, .int .u64 0, .int .u64 0, .slice none 0 0, .slice none 0 0] 37)
        rwa [show (wr.alloc (.cells #[.int .i64 1, .int .u64 ((p : Int) + 1), .int .u64 ((p : Int) + 1), .int .u64 0, .int .i64 0, .int .u64 0, .int .u64 0, .int .u64 0, .int .u64 0, .slice none 0 0, .slice none 0 0] 37)).heap.size = wr.heap.size + 1 by simp] at this
      have HNW := Lib.hid hnw
      have HRA := Lib.hid ((HR.out.1.alloc (.cells #[.int .i64 1, .int .u64 ((p : Int) + 1), .int .u64 ((p : Int) + 1), .int .u64 0, .int .i64 0, .int .u64 0, .int .u64 0, .int .u64 0, .int .u64 0, .slice none 0 0, .slice none 0 0] 37)).alloc (.cells #[.int .i64 1, .int .u64 ((p : Int) + 1), .int .u64 ((p : Int) + 1), .int .u64 0, .int .i64 0, .int .u64 0, .int .u64 0, .int .u64 0, .int .u64 0, .slice none 0 0, .slice none 0 0, .int .i64 1, .int .u64 ((p : Int) + 1), .int .u64 ((p : Int) + 1), .int .u64 0, .int .i64 0, .int .u64 0, .int .u64 0, .int .u64 0, .int .u64 0, .slice none 0 0, .slice none 0 0] 37))
      have hsz2 : ((wr.alloc (.cells #[.int .i64 1, .int .u64 ((p : Int) + 1), .int .u64 ((p : Int) + 1), .int .u64 0, .int .i64 0, .int .u64 0, .int .u64 0, .int .u64 0, .int .u64 0, .slice none 0 0, .slice none 0 0] 37)).alloc (.cells #[.int .i64 1, .int .u64 ((p : Int) + 1), .int .u64 ((p : Int) + 1), .int .u64 0, .int .i64 0, .int .u64 0, .int .u64 0, .int .u64 0, .int .u64 0, .slice none 0 0, .slice none 0 0, .int .i64 1, .int .u64 ((p : Int) + 1), .int .u64 ((p : Int) + 1), .int .u64 0, .int .i64 0, .int .u64 0, .int .u64 0, .int .u64 0, .int .u64 0, .slice none 0 0, .slice none 0 0] 37)).heap.size = wr.heap.size + 2 := by simp
      have HS2 := Lib.hid hsz2
      clear hnw hsz2
      go_wp2_with (at_builtin; refine wpList_append_lies _ rfl _ _ _ rfl w.heap.size 37 i37 (.agg #[.int .i64 0, .int .u64 0, .int .u64 0, .int .u64 0, .int .i64 0, .int .u64 0, .int .u64 0, .int .u64 0, .int .u64 0, .slice none 0 0, .slice none 0 0]) 11 120 Tryd.underlying34 HI.out.1 HI.out.2.1 HI.out.2.2.1 HI.out.2.2.2 rfl (by omega) (.slice (some ⟨g, 0, none⟩) j cap) j (ddCells (twD t j p) j) rfl HRA.out ⟨wr.heap.size + 1, 0, none⟩ 2 2 [.int .i64 1, .int .u64 ((p : Int) + 1), .int .u64 ((p : Int) + 1), .int .u64 0, .int .i64 0, .int .u64 0, .int .u64 0, .int .u64 0, .int .u64 0, .slice none 0 0, .slice none 0 0, .int .i64 1, .int .u64 ((p : Int) + 1), .int .u64 ((p : Int) + 1), .int .u64 0, .int .i64 0, .int .u64 0, .int .u64 0, .int .u64 0, .int .u64 0, .slice none 0 0, .slice none 0 0] rfl rfl (World.news_of_block HNW.out) (by simp [Value.oneCell']) (by omega) (by unfold maxLen; omega) (by omega) (by have := HR.out.2.size; rw [HS2.out]; omega) _ rfl ?_; intro g3 cp3 w3 hown3 hgrow3 hat3 hlt3; have HF3 := Lib.hid (And.intro hown3 (And.intro hgrow3 hlt3)); clear hown3 hgrow3 hat3 hlt3)
      have hb3 : Below w.heap.size w w3 := ((HR.out.2.alloc HR.out.2.size _).alloc (by have := HR.out.2.size; simp; omega) _).grown HF3.out.2.1 (by have := HR.out.2.size; rw [HS2.out]; omega) (fun b hb => (own_blk HR.out.1 hb).1)
      have hrows : ddCells (twD t j p) j ++ [.int .i64 1, .int .u64 ((p : Int) + 1), .int .u64 ((p : Int) + 1), .int .u64 0, .int .i64 0, .int .u64 0, .int .u64 0, .int .u64 0, .int .u64 0, .slice none 0 0, .slice none 0 0, .int .i64 1, .int .u64 ((p : Int) + 1), .int .u64 ((p : Int) + 1), .int .u64 0, .int .i64 0, .int .u64 0, .int .u64 0, .int .u64 0, .int .u64 0, .slice none 0 0, .slice none 0 0] = ddCells (twD t j p) (j + 2) := by
        rw [ddCells_step, ddCells_step, show twD t j p j = .ack (p + 1) (p + 1) by unfold twD; rw [if_neg (by omega)], show twD t j p (j + 1) = .ack (p + 1) (p + 1) by unfold twD; rw [if_neg (by omega)]]
        simp [Dd.row, ackRow]
      have hdd : DeedsAt w3 (some ⟨g3, 0, none⟩) (j + 2) (twD t j p) := deeds_of_own (by rw [← hrows]; exact HF3.out.1)
      have hpn : p < j := by omega
      have h9 := consumer_any (some ⟨g3, 0, none⟩) (j + 2) cp3 (twD t j p) (twK t j p) (twKd t j p) te ve w3 hdd (by omega) (by unfold twK; rw [if_pos (Nat.zero_le _)]; rfl) (fun i _ => tw_good t (by omega) hpn i) (fun i hi => tw_does t (by omega) hpn hi) ((hb3.cell (p := ⟨1, 0, none⟩) (World.block_lt_of_cell? _ _ HE.out)).trans HE.out)
      have HB3 := Lib.hid hb3
      have HPN := Lib.hid hpn
      clear hb3 hrows hdd hpn
      refine h9.mono ?_
      rintro e w4 ⟨base, kv, sv, Af, cf, rfl, hk, hs, hW, hb4, hbase⟩
      obtain ⟨gk, ck, rfl, hck, _, _, hkc⟩ := own_slice hk (by omega)
      obtain ⟨gs, cs, rfl, hcs, _, _, hsc⟩ := own_slice hs (by omega)
      have hW1 := hW j (by omega)
      have hW2 := hW (j + 1) (by omega)
      have hL := tw_len t HPN.out
      have hgood := tw_good t (by omega : j ≤ 12) HPN.out (j + 1)
      have hk0 : w4.cell? ⟨gk, j, none⟩ = some (.int .i64 0) := by
        have := hkc j _ (kd_get (twKd t j p) (j + 2) j (by omega))
        rwa [show twKd t j p j = 0 by simp [twKd]] at this
      have hld1 : ∀ r v, (keepCells (twK t j p (j + 1)) (Af j) (cf j))[r]? = some v → w4.cell? ⟨gs, j * 6 + r, none⟩ = some v := fun r v hv => by
        have hr : r < 6 := (List.getElem?_eq_some_iff.1 hv).1
        exact hsc (j * 6 + r) v ((st_get (twK t j p) Af cf (j + 2) j r (by omega) hr).trans hv)
      have hld2 : ∀ r v, (keepCells (twK t j p (j + 1)) (Af (j + 1)) (cf (j + 1)))[r]? = some v → w4.cell? ⟨gs, (j + 1) * 6 + r, none⟩ = some v := fun r v hv => by
        have hr : r < 6 := (List.getElem?_eq_some_iff.1 hv).1
        rw [← tw_same] at hv
        exact hsc ((j + 1) * 6 + r) v ((st_get (twK t j p) Af cf (j + 2) (j + 1) r (by omega) hr).trans hv)
      rw [tw_same] at hW2
      obtain ⟨kc, hkc0⟩ : ∃ kc, twK t j p (j + 1) = kc := ⟨_, rfl⟩
      rw [hkc0] at hW1 hW2 hL hgood hld1 hld2
      have hq1 : ((kc.waits.length : Int) == (j : Int) - 1) = true := by simp; omega
      have hl1 : ∀ w', K.Grew w4 w' → (Instr.loadAt 31 (.pointer (some ⟨gs, j * 6, none⟩))).run Tryd.prog w' = .ok (keepV kc (Af j) (cf j) (.slice none 0 0)) w' := fun w' hw' => load_keep kc (Af j) (cf j) (fun r v hv => K.Grew.cell hw' (hld1 r v hv))
      have hl2 : ∀ w', K.Grew w4 w' → (Instr.loadAt 31 (.pointer (some ⟨gs, (j + 1) * 6, none⟩))).run Tryd.prog w' = .ok (keepV kc (Af (j + 1)) (cf (j + 1)) (.slice none 0 0)) w' := fun w' hw' => load_keep kc (Af (j + 1)) (cf (j + 1)) (fun r v hv => K.Grew.cell hw' (hld2 r v hv))
      have hs4 : w4.cell? ⟨gs, j * 6 + 4, none⟩ = some (.slice (Af j) kc.waits.length (cf j)) := hld1 4 _ rfl
      have h10 : ∀ w', K.Grew w4 w' → Calls Tryd.prog 10 #[keepV kc (Af j) (cf j) (.slice none 0 0), keepV kc (Af (j + 1)) (cf (j + 1)) (.slice none 0 0)] w' (Yes w') := fun w' hw' => same_yes kc _ _ _ _ w' (hW1.grew hw') (hW2.grew hw') hgood.len
      have hB4 : Below w.heap.size w w4 := HB3.out.trans (hb4.mono HB3.out.size)
      have hE4 : w4.cell? ⟨1, 0, none⟩ = some (.iface te ve) := (hB4.cell (p := ⟨1, 0, none⟩) (World.block_lt_of_cell? _ _ HE.out)).trans HE.out
      have h8 : ∀ w', K.Grew w4 w' → Calls Tryd.prog 8 #[] w' (Yes w') := fun w' hw' => awake_any te ve w' (K.Grew.cell hw' hE4)
      have HB4 := Lib.hid hB4
      generalize Af j = A1 at hl1 hs4 h10
      generalize Af (j + 1) = A2 at hl2 h10
      generalize cf j = e1 at hl1 hs4 h10
      generalize cf (j + 1) = e2 at hl2 h10
      have i0 : (0 : Int) ≤ (j : Int) := by omega
      have i1 : (j : Int) < ((j + 2 : Nat) : Int) := by omega
      have i2 : (0 : Int) ≤ (j : Int) + 1 := by omega
      have i3 : (j : Int) + 1 < ((j + 2 : Nat) : Int) := by omega
      have i4 : ((j : Int) + 1).toNat = j + 1 := by omega
      have i5 : ((j : Int) + 1) < (j : Int) + 2 := by omega
      have i6 : (j : Int) < (j : Int) + 2 := by omega
      have hj9 : (j : Int) ≤ 12 := by omega
      clear hk hs hW hb4 hbase hkc hsc h9 hW1 hW2 hL hgood hld1 hld2 hB4 hE4 hkc0
      go_wp2_with fail
      refine K.wp_region_grew (by kernel_rfl) (by kernel_rfl) ?_
      repeat (first
        | go_big_quiet_skip
        | (go_big_quiet_want; refine K.quiet_load _ _ rfl _ rfl ?_ ?_ ?_
           rotate_left
           · assumption
           simp only [Act.put, List.setIfInBounds_toArray, List.set_cons_zero, List.set_cons_succ]
           go_big_quiet_on)
        | (go_big_quiet_want; go_big_quiet_op; go_big_quiet_on)
        | (go_big_quiet_want; go_big_quiet_op; refine ⟨_, fun _ _ => rfl, ?_⟩; go_big_quiet_on)
        | (go_big_quiet_want; refine K.quiet_cell (v := ?_) ?_ _ _ rfl rfl ?_ ?_
           rotate_left
           · assumption
           · (intro w hw; go_simp)
           simp only [Act.put, List.setIfInBounds_toArray, List.set_cons_zero, List.set_cons_succ]
           go_big_quiet_on)
        | (go_big_quiet_want; go_big_quiet_op; apply Exists.intro
           refine ⟨fun w hw => ?_, ?_⟩
           · first | with_reducible exact quiet_of_yes hw (h10 _ hw) | with_reducible exact quiet_of_yes hw (h8 _ hw)
           go_big_quiet_on))
      refine wpQuiet_nil ?_
      intro w5 hw5
      have HG5 := Lib.hid hw5
      clear hw5 h10 h8 hl1 hl2 hs4 hk0
      go_wp2_with fail
      go_ret
      exact ⟨rfl, HB4.out.trans (Below.mono HG5.out HB4.out.size)⟩
theorem law_any (m q t : Int) (te : TypeId) (ve : Value) (w : World) (hE : w.cell? ⟨1, 0, none⟩ = some (.iface te ve)) : Calls Tryd.prog 4 #[.int .i64 m, .int .i64 q, .int .i64 t] w (Yes w) := by
  by_cases h0 : m < 1
  · exact away0 m q t te ve w hE h0
  · by_cases h1 : 12 < m
    · exact away1 m q t te ve w hE h0 h1
    · by_cases h2 : q < 0
      · exact away2 m q t te ve w hE h0 h1 h2
      · by_cases h3 : m ≤ q
        · exact away3 m q t te ve w hE h0 h1 h2 h3
        · by_cases h4 : t < 1
          · exact away4 m q t te ve w hE h0 h1 h2 h3 h4
          · by_cases h5 : 1152921504606846976 < t
            · exact away5 m q t te ve w hE h0 h1 h2 h3 h4 h5
            · obtain ⟨n, rfl⟩ : ∃ n : Nat, m = (n : Int) := ⟨m.toNat, by omega⟩
              obtain ⟨p, rfl⟩ : ∃ p : Nat, q = (p : Int) := ⟨q.toNat, by omega⟩
              exact main_any n p t te ve w hE h0 h1 h2 h3 h4 h5

theorem own : ownKnob Tryd.prog.godebug = none := by kernel_rfl
theorem laidOut : laidOutB Tryd.prog = true := by kernel_rfl
/-- what the row's list gives: ErrStoreMsgNotFound is not nil -/
theorem facts {W : World} (h : laidMetH Tryd.prog Rows.fnConsumerTwiceRow.laid W) : ∃ te ve, W.cell? ⟨1, 0, none⟩ = some (.iface te ve) := by
  rw [MakeChecks.laidMetH_plain _ _ _ (by kernel_rfl)] at h
  exact miss_iface (Go.Lib.laidMet.reads h (List.Mem.tail _ (List.Mem.head _)))
theorem door_met (os : Os) (args : Array Value) : laidMetH Tryd.prog Rows.fnConsumerTwiceRow.laid ((World.doorLaid Tryd.prog 95 os).forCall (fun _ _ => 0) ⟨#[], args, []⟩).memory := 
  laidMetH_of_parts3 (fuel := 8) (laidMet_of_run' 8 (by kernel_rfl) (by kernel_rfl)) (by kernel_rfl) (by kernel_rfl)
set_option maxRecDepth 100000 in
theorem reads (os : Os) {H : Type} (enc : TypeId × Value → H) : ∃ places, DataW.whole enc Tryd.prog ((World.doorLaid Tryd.prog 95 os).forCall (fun _ _ => 0) ⟨#[], #[.int .i64 0, .int .i64 0, .int .i64 0], []⟩).memory Tryd.f4.params.toList Rows.fnConsumerTwiceSpec.vars false (#[.int .i64 0, .int .i64 0, .int .i64 0] : Array Value).toList 8 = some ([.lit (.int .i64 0), .lit (.int .i64 0), .lit (.int .i64 0)], [], places) :=
  ⟨[], by kernel_rfl⟩

set_option maxRecDepth 100000 in
theorem contract (H : Type) (enc : TypeId × Value → H) (W : World) (args : Array Value) (ds gs : List (DataW H)) (before : List MemPlace)
    (hval : ∀ (j : Nat) t v, Tryd.f4.params[j]? = some t → args[j]? = some v → Value.okWide Tryd.prog W .any 0 t v)
    (hW : DataW.Whole enc Tryd.prog Tryd.f4.params.toList Rows.fnConsumerTwiceSpec.vars false W args.toList ds gs before) (hL : laidMetH Tryd.prog Rows.fnConsumerTwiceRow.laid W) :
    Calls Tryd.prog 4 args W fun e W' => ∃ v, e = .returned v ∧ Rows.fnConsumerTwiceSpec.post enc Tryd.prog Tryd.f4 false true false false W args v W' := by
  have hW' := hW
  obtain ⟨p, q, hA0, hV, rfl, hfz, hnd⟩ := hW
  have hA : DataW.TrodAll enc Tryd.prog W 0 (fun _ => true) true Tryd.f4.params.toList args.toList ds p := hA0
  rw [Tryd.params4] at hA hval
  obtain ⟨v0, vs0, d0, ds0, p0, q0, hargs, rfl, rfl, h0, r0⟩ := trodAll_cons hA
  obtain ⟨v1, vs1, d1, ds1, p1, q1, rfl, rfl, rfl, h1, r1⟩ := trodAll_cons r0
  obtain ⟨v2, vs2, d2, ds2, p2, q2, rfl, rfl, rfl, h2, r2⟩ := trodAll_cons r1
  obtain ⟨rfl, rfl, rfl⟩ := trodAll_nil r2
  obtain rfl : args = #[v0, v1, v2] := by cases args; simp_all
  obtain ⟨rfl, rfl⟩ := trodVars_none hV
  obtain ⟨m, rfl, rfl, rfl, wm⟩ := open_int Tryd.underlying3 (hval 0 3 v0 rfl rfl) h0
  obtain ⟨q, rfl, rfl, rfl, wq⟩ := open_int Tryd.underlying3 (hval 1 3 v1 rfl rfl) h1
  obtain ⟨t, rfl, rfl, rfl, wt⟩ := open_int Tryd.underlying2 (hval 2 2 v2 rfl rfl) h2
  obtain ⟨te, ve, hE⟩ := facts hL
  refine (law_any m q t te ve W hE).mono fun e W' ⟨hE, hg⟩ => ?_
  subst hE
  exact ⟨_, rfl, K.post_law (tb := 4) laidOut Tryd.underlying4 rfl (by kernel_rfl) rfl rfl (fun W => ok_one (by kernel_rfl) rfl (okWide_bool_mk Tryd.underlying4 _)) hW' hg⟩

set_option maxRecDepth 100000 in
theorem lifted (os : Os) (started : os.Started) (H : Type) (enc : TypeId × Value → H) (F : Stop.Interp) :
    ReturnsInHanded {} Tryd.checked os 4 .any ((OpenSpec.ofChange Rows.fnConsumerTwiceSpec).preRow enc Tryd.prog Tryd.f4 Rows.fnConsumerTwiceRow.domain false Rows.fnConsumerTwiceRow.laid) (((OpenSpec.ofChange Rows.fnConsumerTwiceSpec).at F).post enc Tryd.prog Tryd.f4 false true false false) := by
  obtain ⟨places, hx⟩ := reads os enc
  refine returnsInHanded_of_row (C := Tryd.checked) (s := OpenSpec.ofChange Rows.fnConsumerTwiceSpec) own started (by kernel_rfl) Tryd.func4
    (witness_row_atRef (enc := enc) (C := Tryd.checked) false (World.doorLaid Tryd.prog 95 os) #[.int .i64 0, .int .i64 0, .int .i64 0] rfl (by kernel_rfl) (by kernel_rfl) (by kernel_rfl)
      (OpenSpec.preRow_of_cond 8 hx (by kernel_rfl) (fun k hk => by cases hk) (by kernel_rfl) (door_met os _))) ?_
  intro W base args ds gs before hval hW _ hcond _ hL _ _
  exact contract H enc W args ds gs before hval hW hL

theorem said : Rows.FnConsumerTwiceSaid :=
  OpenClaim.holds_of_cond 4 Tryd.f4 rfl rfl rfl rfl rfl rfl rfl ⟨rfl, rfl, rfl, rfl, rfl⟩ rfl rfl rfl rfl rfl (by kernel_rfl) Tryd.func4 (by kernel_rfl)
    (of_decide_eq_true (by kernel_rfl)) (by unfold Func.isWrapper; first | (rw [if_pos (by decide +kernel)]; kernel_rfl) | (rw [if_neg (by decide +kernel)]; exact ⟨rfl, rfl⟩))
    (fun os started H enc _ F => by rw [OpenClaim.pre_eq_preRow]; exact lifted os started H enc F)

theorem plain (f : FuncId) (fn : Func) (hf : Tryd.pinned.checked.prog.funcNamed "pub-streamkeep/laws.FnConsumerTwice" = some f) (hfn : Tryd.pinned.checked.prog.funcs[f]? = some fn) :
    false = Tryd.pinned.checked.prog.looks [] ∧ ∀ (j : Nat) t, fn.params[j]? = some t → Tryd.pinned.checked.prog.wantsStandIn t = false := by
  obtain rfl : f = 4 := Option.some.inj ((show Tryd.prog.funcNamed "pub-streamkeep/laws.FnConsumerTwice" = some 4 by kernel_rfl).symm.trans hf) |>.symm
  obtain rfl : fn = Tryd.f4 := (Option.some.inj (Tryd.func4.symm.trans hfn)).symm
  refine ⟨by kernel_rfl, fun j t ht => ?_⟩
  rw [Tryd.params4] at ht
  have hm : t ∈ [3, 3, 2] := by simpa using Array.mem_of_getElem? ht
  have hall : ([3, 3, 2].all fun u => !Tryd.prog.wantsStandIn u) = true := by kernel_rfl
  exact (show Tryd.prog.wantsStandIn t = false by simpa using List.all_eq_true.1 hall t hm)

/-- THE CARD. -/
theorem card : Rows.FnConsumerTwiceCardSaid :=
  Claim7.holds_tied_plain_at .later [] _ _ _ _ said (fun _ h => by cases h) (by kernel_rfl) (fun _ h => by cases h) fnConsumerTwice_row_tie rfl ⟨rfl, rfl⟩ (by kernel_rfl) rfl plain (by kernel_rfl)

end Go.Proofs.YtchphfdoneckeaaDoor.consumerTwice
