/-
  FnConsumerAll says yes, whatever the order: so many messages, acknowledged in whatever order.
-/
import Derived.Test.YtchphfdoneckeaaDoorSe
import Derived.Deep.Cut
namespace Go.Proofs.YtchphfdoneckeaaDoor.consumerAll
open Go.RowKit
open Cs (Wt Kp)
open K (Yes Lies nums)

set_option maxRecDepth 100000 in
theorem away0 (m t : Int) (n cap : Nat) (A : Option Addr) (te : TypeId) (ve : Value) (w : World) (hE : w.cell? ⟨1, 0, none⟩ = some (.iface te ve)) (hn : ¬ 2147483647 < (n : Int)) (h0 : m < 1) : Calls Tryd.prog 7 #[.int .i64 m, .slice A n cap, .int .i64 t] w (Yes w) := by
  have h8 := awake_any te ve w hE
  clear hE
  go_enter Tryd.func7, Tryd.ntmps7
  go_wp2_with fail
  refine h8.mono ?_
  rintro e w1 ⟨rfl, hb⟩
  have HB := Lib.hid hb
  clear hb h8
  go_wp2_with fail
  go_ret
  exact ⟨rfl, HB.out⟩
set_option maxRecDepth 100000 in
theorem away1 (m t : Int) (n cap : Nat) (A : Option Addr) (te : TypeId) (ve : Value) (w : World) (hE : w.cell? ⟨1, 0, none⟩ = some (.iface te ve)) (hn : ¬ 2147483647 < (n : Int)) (h0 : ¬ m < 1) (h1 : 12 < m) : Calls Tryd.prog 7 #[.int .i64 m, .slice A n cap, .int .i64 t] w (Yes w) := by
  have h8 := awake_any te ve w hE
  clear hE
  go_enter Tryd.func7, Tryd.ntmps7
  go_wp2_with fail
  refine h8.mono ?_
  rintro e w1 ⟨rfl, hb⟩
  have HB := Lib.hid hb
  clear hb h8
  go_wp2_with fail
  go_ret
  exact ⟨rfl, HB.out⟩
set_option maxRecDepth 100000 in
theorem away2 (m t : Int) (n cap : Nat) (A : Option Addr) (te : TypeId) (ve : Value) (w : World) (hE : w.cell? ⟨1, 0, none⟩ = some (.iface te ve)) (hn : ¬ 2147483647 < (n : Int)) (h0 : ¬ m < 1) (h1 : ¬ 12 < m) (h2 : (n : Int) ≠ m) : Calls Tryd.prog 7 #[.int .i64 m, .slice A n cap, .int .i64 t] w (Yes w) := by
  have h8 := awake_any te ve w hE
  clear hE
  go_enter Tryd.func7, Tryd.ntmps7
  go_wp2_with fail
  refine h8.mono ?_
  rintro e w1 ⟨rfl, hb⟩
  have HB := Lib.hid hb
  clear hb h8
  go_wp2_with fail
  go_ret
  exact ⟨rfl, HB.out⟩
set_option maxRecDepth 100000 in
theorem away3 (m t : Int) (n cap : Nat) (A : Option Addr) (te : TypeId) (ve : Value) (w : World) (hE : w.cell? ⟨1, 0, none⟩ = some (.iface te ve)) (hn : ¬ 2147483647 < (n : Int)) (h0 : ¬ m < 1) (h1 : ¬ 12 < m) (h2 : ¬ (n : Int) ≠ m) (h3 : t < 1) : Calls Tryd.prog 7 #[.int .i64 m, .slice A n cap, .int .i64 t] w (Yes w) := by
  have h8 := awake_any te ve w hE
  clear hE
  go_enter Tryd.func7, Tryd.ntmps7
  go_wp2_with fail
  refine h8.mono ?_
  rintro e w1 ⟨rfl, hb⟩
  have HB := Lib.hid hb
  clear hb h8
  go_wp2_with fail
  go_ret
  exact ⟨rfl, HB.out⟩
set_option maxRecDepth 100000 in
theorem away4 (m t : Int) (n cap : Nat) (A : Option Addr) (te : TypeId) (ve : Value) (w : World) (hE : w.cell? ⟨1, 0, none⟩ = some (.iface te ve)) (hn : ¬ 2147483647 < (n : Int)) (h0 : ¬ m < 1) (h1 : ¬ 12 < m) (h2 : ¬ (n : Int) ≠ m) (h3 : ¬ t < 1) (h4 : 1152921504606846976 < t) : Calls Tryd.prog 7 #[.int .i64 m, .slice A n cap, .int .i64 t] w (Yes w) := by
  have h8 := awake_any te ve w hE
  clear hE
  go_enter Tryd.func7, Tryd.ntmps7
  go_wp2_with fail
  refine h8.mono ?_
  rintro e w1 ⟨rfl, hb⟩
  have HB := Lib.hid hb
  clear hb h8
  go_wp2_with fail
  go_ret
  exact ⟨rfl, HB.out⟩
set_option maxRecDepth 100000 in
theorem long (m t : Int) (n cap : Nat) (A : Option Addr) (w : World) (hn : 2147483647 < (n : Int)) : Calls Tryd.prog 7 #[.int .i64 m, .slice A n cap, .int .i64 t] w (Yes w) := by
  go_enter Tryd.func7, Tryd.ntmps7
  go_wp2_with fail
  go_ret
  exact ⟨rfl, Below.refl _ _⟩

/-- the order, as numbers -/
def qo (zs : List Int) (l : Nat) : Nat := (zs.getD l 0).toNat
def wasSeen (zs : List Int) (i : Nat) (j : Nat) : Bool := (List.range i).any (fun l => decide (qo zs l = j))
theorem wasSeen_step (zs : List Int) (i j : Nat) : wasSeen zs (i + 1) j = (wasSeen zs i j || decide (qo zs i = j)) := by
  unfold wasSeen; rw [List.range_succ, List.any_append]; simp
theorem wasSeen_false {zs : List Int} {i j : Nat} (h : wasSeen zs i j = false) : ∀ l, l < i → qo zs l ≠ j := fun l hl e => by
  unfold wasSeen at h
  have := List.any_eq_false.1 h l (List.mem_range.2 hl)
  simp [e] at this
theorem ord_step {zs : List Int} {n i : Nat} (h : Ord n (qo zs) i) (hz : qo zs i < n) (hs : wasSeen zs i (qo zs i) = false) : Ord n (qo zs) (i + 1) := by
  refine ⟨fun l hl => ?_, fun l m h1 h2 => ?_⟩
  · by_cases e : l = i
    · subst e; exact hz
    · exact h.lt l (by omega)
  · by_cases e : m = i
    · subst e; exact wasSeen_false hs l h1
    · exact h.ne l m h1 (by omega)
/-- the script so far -/
def RowAt (w wr : World) (v : Value) (m : Nat) (dd : Nat → Dd) (M n : Nat) (p : Nat → Bool) : Prop :=
  wr.ownsRow (w.heap.size + 1) 37 11 v m (ddCells dd m) ∧ Below w.heap.size w wr ∧ wr.heap[M]? = some (.cells (seenA n p) 4 (0, 0)) ∧ M = w.heap.size
theorem row_step {w wr w3 : World} {v : Value} {m M n g cp : Nat} {dd : Nat → Dd} {p : Nat → Bool} {cs : Array Value} (h : RowAt w wr v m dd M n p) (hrow : cs.toList = (dd m).row.toList)
    (hown : w3.ownsRow (w.heap.size + 1) 37 11 (.slice (some ⟨g, 0, none⟩) (m + 1) cp) (m + 1) (ddCells dd m ++ cs.toList)) (hg : (wr.alloc (.cells cs 37)).grownBy w3 v.ownBlock) :
    RowAt w w3 (.slice (some ⟨g, 0, none⟩) (m + 1) cp) (m + 1) dd M n p := by
  obtain ⟨h1, h2, h3, h4⟩ := h
  have hl := lt_of_heap h3
  refine ⟨by rw [ddCells_step, ← hrow]; exact hown, (h2.alloc h2.size _).grown hg (by have := h2.size; simp; omega) (fun b hb => by have := (own_blk h1 hb).1; omega), ?_, h4⟩
  refine (hg.block M (by simp; omega) (fun e => ?_)).trans ((Below.heap_alloc _ _ _ hl).trans h3)
  have := (own_blk h1 e.symm).1
  omega
theorem row_seen_set {w wr : World} {v : Value} {m M n z : Nat} {dd : Nat → Dd} {p : Nat → Bool} (h : RowAt w wr v m dd M n p) : RowAt w (wr.setCell ⟨M, z, none⟩ (.bool true)) v m dd M n (fun j => p j || decide (z = j)) := by
  obtain ⟨h1, h2, h3, h4⟩ := h
  refine ⟨own_move h1 fun b hb => Below.heap_setCell _ _ _ _ (by have := (own_blk h1 hb).1; show b ≠ M; omega), h2.setCell (by show w.heap.size ≤ M; omega) _, ?_, h4⟩
  rw [← seen_set]
  exact K.heap_setCell_at h3 _
theorem orD_step (f : Nat → Nat) (t : Int) (n : Nat) (q : Nat → Nat) : ∀ j, j < n → orD f t n q j = .dlv (j + 1) (f j) t := fun j hj => by unfold orD; rw [if_pos hj]
/-- the last state -/
theorem last_all (t : Int) {n : Nat} (hn : n ≤ 12) (h1 : 1 ≤ n) {q : Nat → Nat} (ho : Ord n q n) : orK f1 t n q (2 * n) = ⟨n, n, n, n, []⟩ := by
  rw [or_last grows1 t hn h1 ho]
  have : f1 (n - 1) = n := by unfold f1; omega
  rw [this]

set_option maxHeartbeats 8000000 in
set_option maxRecDepth 100000 in
theorem main_any (n cap : Nat) (A : Option Addr) (zs : List Int) (t : Int) (te : TypeId) (ve : Value) (w : World) (hE : w.cell? ⟨1, 0, none⟩ = some (.iface te ve)) (hA : Lies w A n (nums .i64 zs)) (hzl : zs.length = n)
    (h0 : ¬ (n : Int) < 1) (h1 : ¬ 12 < (n : Int)) (h4 : ¬ t < 1) (h5 : ¬ 1152921504606846976 < t) :
    Calls Tryd.prog 7 #[.int .i64 (n : Int), .slice A n cap, .int .i64 t] w (Yes w) := by
  have HE := Lib.hid (And.intro hE hA)
  clear hE hA
  obtain ⟨i37, hi, hz, hs, hy⟩ := info37
  have HI := Lib.hid (And.intro hi (And.intro hz (And.intro hs hy)))
  obtain ⟨i4, hi4, hz4, hs4, hy4⟩ := info4
  clear hi hz hs hy
  have hn1 : ¬ 2147483647 < (n : Int) := by omega
  go_enter Tryd.func7, Tryd.ntmps7
  go_wp2_with (at_make; refine wpList_make_full _ rfl _ _ 35 rfl w.heap.size 4 i4 (.bool false) 1 Tryd.underlying35 hi4 hz4 hs4 .i64 .i64 _ _ n rfl rfl rfl rfl (by rw [hy4]; omega) (by unfold maxLen; omega) (by omega) ?_; intro w2 hown hgr; have HM := Lib.hid (And.intro (row_seen hown) ((Below.refl _ _).grown hgr (Nat.le_refl _) (fun k hk => by cases hk))); clear hown hgr)
  clear hi4 hz4 hs4 hy4
  generalize hMM : w.heap.size = M at HM ⊢
  have HMM := Lib.hid hMM
  clear hMM
  go_loopw [8, 9] (fun v i wr => ∃ j : Nat, j ≤ n ∧ i = .int .i64 (j : Int) ∧ Hid (RowAt w wr v j (orD f1 t n (qo zs)) M n (fun _ => false))) (fun _ i _ => n - (intOf i).toNat)
  case atStart => exact ⟨0, by omega, rfl, Lib.hid ⟨World.ownsRow_nil _ _ _ _, by rw [HMM.out]; exact HM.out.2, HM.out.1, HMM.out.symm⟩⟩
  case round =>
    obtain ⟨j, hj, rfl, HR⟩ := hrel
    by_cases hlt : j < n
    · have hj0 : (0 : Int) ≤ (j : Int) := by omega
      have hj1 : (j : Int) < (n : Int) := by omega
      have hj2 : (j : Int) ≤ 12 := by omega
      have hnw : (wr.alloc (.cells #[.int .i64 0, .int .u64 ((j : Int) + 1), .int .u64 ((j : Int) + 1), .int .u64 1, .int .i64 t, .int .u64 0, .int .u64 0, .int .u64 0, .int .u64 0, .slice none 0 0, .slice none 0 0] 37)).heap[wr.heap.size]? = _ := K.heap_alloc_at _ _
      have HNW := Lib.hid hnw
      have HRA := Lib.hid (HR.out.1.alloc (.cells #[.int .i64 0, .int .u64 ((j : Int) + 1), .int .u64 ((j : Int) + 1), .int .u64 1, .int .i64 t, .int .u64 0, .int .u64 0, .int .u64 0, .int .u64 0, .slice none 0 0, .slice none 0 0] 37))
      clear hnw
      go_wp2_with (at_builtin; refine wpList_append_lies _ rfl _ _ _ rfl (w.heap.size + 1) 37 i37 (.agg #[.int .i64 0, .int .u64 0, .int .u64 0, .int .u64 0, .int .i64 0, .int .u64 0, .int .u64 0, .int .u64 0, .int .u64 0, .slice none 0 0, .slice none 0 0]) 11 120 Tryd.underlying34 HI.out.1 HI.out.2.1 HI.out.2.2.1 HI.out.2.2.2 rfl (by omega) u8 j (ddCells (orD f1 t n (qo zs)) j) rfl HRA.out ⟨wr.heap.size, 0, none⟩ 1 1 [.int .i64 0, .int .u64 ((j : Int) + 1), .int .u64 ((j : Int) + 1), .int .u64 1, .int .i64 t, .int .u64 0, .int .u64 0, .int .u64 0, .int .u64 0, .slice none 0 0, .slice none 0 0] rfl rfl (World.news_of_block HNW.out) (by simp [Value.oneCell']) (by omega) (by unfold maxLen; omega) (by omega) (by have := lt_of_heap HR.out.2.2.1; have := HR.out.2.2.2; simp; omega) _ rfl ?_; intro g3 cp3 w3 hown3 hgrow3 hat3 hlt3; have HF3 := Lib.hid (And.intro hown3 hgrow3); clear hown3 hgrow3 hat3 hlt3)
      have HFIN := Lib.hid (row_step (cs := #[.int .i64 0, .int .u64 ((j : Int) + 1), .int .u64 ((j : Int) + 1), .int .u64 1, .int .i64 t, .int .u64 0, .int .u64 0, .int .u64 0, .int .u64 0, .slice none 0 0, .slice none 0 0]) HR.out (by rw [orD_step _ _ _ _ _ hlt]; simp [Dd.row, dlvRow, f1]) HF3.out.1 HF3.out.2)
      go_roundw
      case rel => exact ⟨j + 1, by omega, by go_num, HFIN⟩
      case measure => simp [intOf]; omega
    · obtain rfl : j = n := by omega
      have HR1 := HR
      clear hlt hj HM
      go_wp2_with fail
      go_loopw [8, 10, 11] (fun v i _ wr => ∃ c : Nat, c ≤ j ∧ i = .int .i64 (c : Int) ∧ Hid (Ord j (qo zs) c ∧ RowAt w wr v (j + c) (orD f1 t j (qo zs)) M j (wasSeen zs c))) (fun _ i _ _ => j - (intOf i).toNat)
      case atStart => exact ⟨0, by omega, rfl, Lib.hid ⟨⟨fun l hl => by omega, fun l m h1 h2 => by omega⟩, HR1.out⟩⟩
      case round =>
        obtain ⟨c, hc, rfl, HQ⟩ := hrel
        have hE' := (HQ.out.2.2.1.cell (p := ⟨1, 0, none⟩) (World.block_lt_of_cell? _ _ HE.out.1)).trans HE.out.1
        have h8 := awake_any te ve wr hE'
        have HW := Lib.hid HQ.out.2.2.1
        clear hE'
        by_cases hlt : c < j
        · obtain ⟨ab, ao, rfl, hab, hcs⟩ := HE.out.2 (by omega)
          have hz : wr.cell? ⟨ab, ao + c, none⟩ = some (.int .i64 (zs.getD c 0)) := (HQ.out.2.2.1.cell (p := ⟨ab, ao + c, none⟩) hab).trans (hcs c hlt)
          have hc0 : (0 : Int) ≤ (c : Int) := by omega
          have hc1 : (c : Int) < (j : Int) := by omega
          obtain ⟨z, hze⟩ : ∃ z, zs.getD c 0 = z := ⟨_, rfl⟩
          rw [hze] at hz
          have HZ := Lib.hid hze
          have HC := Lib.hid hlt
          clear hcs hze hab hlt
          by_cases hz0 : z < 0
          · go_wp2_with fail
            refine h8.mono ?_
            rintro e w1 ⟨rfl, hb⟩
            have HB := Lib.hid hb
            clear hb h8
            go_wp2_with fail
            go_ret
            exact ⟨rfl, HW.out.trans (Below.mono HB.out HW.out.size)⟩
          · by_cases hz1 : (j : Int) ≤ z
            · go_wp2_with fail
              refine h8.mono ?_
              rintro e w1 ⟨rfl, hb⟩
              have HB := Lib.hid hb
              clear hb h8
              go_wp2_with fail
              go_ret
              exact ⟨rfl, HW.out.trans (Below.mono HB.out HW.out.size)⟩
            · obtain ⟨z, rfl⟩ : ∃ q : Nat, z = (q : Int) := ⟨z.toNat, by omega⟩
              have hzj : z < j := by omega
              have hqo : qo zs c = z := by unfold qo; rw [HZ.out]; rfl
              have hsc := seen_at HQ.out.2.2.2.1 hzj
              have hz2 : (0 : Int) ≤ (z : Int) := by omega
              have hz3 : (z : Int) < (j : Int) := by omega
              cases hb : wasSeen zs c z with
              | true =>
                rw [hb] at hsc
                clear hb
                go_wp2_with fail
                refine h8.mono ?_
                rintro e w1 ⟨rfl, hb⟩
                have HB := Lib.hid hb
                clear hb h8
                go_wp2_with fail
                go_ret
                exact ⟨rfl, HW.out.trans (Below.mono HB.out HW.out.size)⟩
              | false =>
                rw [hb] at hsc
                have hfz : wr.frozen? ⟨M, z, none⟩ = false := thawed HQ.out.2.2.2.1 z
                have hrow := row_seen_set (z := z) HQ.out.2
                have hsz : (wr.setCell ⟨M, z, none⟩ (.bool true)).heap.size = wr.heap.size := by simp
                have hord := ord_step HQ.out.1 (by rw [hqo]; exact hzj) (by rw [hqo]; exact hb)
                have hnw : ((wr.setCell ⟨M, z, none⟩ (.bool true)).alloc (.cells #[.int .i64 1, .int .u64 ((z : Int) + 1), .int .u64 ((z : Int) + 1), .int .u64 0, .int .i64 0, .int .u64 0, .int .u64 0, .int .u64 0, .int .u64 0, .slice none 0 0, .slice none 0 0] 37)).heap[wr.heap.size]? = some (.cells #[.int .i64 1, .int .u64 ((z : Int) + 1), .int .u64 ((z : Int) + 1), .int .u64 0, .int .i64 0, .int .u64 0, .int .u64 0, .int .u64 0, .int .u64 0, .slice none 0 0, .slice none 0 0] 37 (0, 0)) := by
                  have := K.heap_alloc_at (wr.setCell ⟨M, z, none⟩ (.bool true)) (.cells #[.int .i64 1, .int .u64 ((z : Int) + 1), .int .u64 ((z : Int) + 1), .int .u64 0, .int .i64 0, .int .u64 0, .int .u64 0, .int .u64 0, .int .u64 0, .slice none 0 0, .slice none 0 0] 37)
                  rwa [hsz] at this
                have HNW := Lib.hid hnw
                have HROW := Lib.hid (And.intro hrow (And.intro hord (And.intro hqo (And.intro hzj hsz))))
                have HRA := Lib.hid (hrow.1.alloc (.cells #[.int .i64 1, .int .u64 ((z : Int) + 1), .int .u64 ((z : Int) + 1), .int .u64 0, .int .i64 0, .int .u64 0, .int .u64 0, .int .u64 0, .int .u64 0, .slice none 0 0, .slice none 0 0] 37))
                clear hnw hrow hord hb hqo hsz h8
                go_wp2_with (at_builtin; refine wpList_append_lies _ rfl _ _ _ rfl (w.heap.size + 1) 37 i37 (.agg #[.int .i64 0, .int .u64 0, .int .u64 0, .int .u64 0, .int .i64 0, .int .u64 0, .int .u64 0, .int .u64 0, .int .u64 0, .slice none 0 0, .slice none 0 0]) 11 120 Tryd.underlying34 HI.out.1 HI.out.2.1 HI.out.2.2.1 HI.out.2.2.2 rfl (by omega) u8 (j + c) (ddCells (orD f1 t j (qo zs)) (j + c)) rfl HRA.out ⟨wr.heap.size, 0, none⟩ 1 1 [.int .i64 1, .int .u64 ((z : Int) + 1), .int .u64 ((z : Int) + 1), .int .u64 0, .int .i64 0, .int .u64 0, .int .u64 0, .int .u64 0, .int .u64 0, .slice none 0 0, .slice none 0 0] rfl rfl (World.news_of_block HNW.out) (by simp [Value.oneCell']) (by omega) (by unfold maxLen; omega) (by omega) (by have q1 := lt_of_heap HROW.out.1.2.2.1; have q2 := HROW.out.1.2.2.2; have q3 := HROW.out.2.2.2.2; rw [q3] at q1; simp; omega) _ rfl ?_; intro g3 cp3 w3 hown3 hgrow3 hat3 hlt3; have HF3 := Lib.hid (And.intro hown3 hgrow3); clear hown3 hgrow3 hat3 hlt3)
                have hfin : Ord j (qo zs) (c + 1) ∧ RowAt w w3 (.slice (some ⟨g3, 0, none⟩) (j + c + 1) cp3) (j + (c + 1)) (orD f1 t j (qo zs)) M j (wasSeen zs (c + 1)) := by
                  have e1 : orD f1 t j (qo zs) (j + c) = .ack (z + 1) (z + 1) := by
                    unfold orD
                    rw [if_neg (by omega), show j + c - j = c by omega, HROW.out.2.2.1]
                    rfl
                  have e2 : wasSeen zs (c + 1) = fun q => wasSeen zs c q || decide (z = q) := funext fun q => by rw [wasSeen_step, HROW.out.2.2.1]
                  rw [e2]
                  exact ⟨HROW.out.2.1, row_step (cs := #[.int .i64 1, .int .u64 ((z : Int) + 1), .int .u64 ((z : Int) + 1), .int .u64 0, .int .i64 0, .int .u64 0, .int .u64 0, .int .u64 0, .int .u64 0, .slice none 0 0, .slice none 0 0]) HROW.out.1 (by rw [e1]; simp [Dd.row, ackRow]) HF3.out.1 HF3.out.2⟩
                have HFIN := Lib.hid hfin
                clear hfin
                have hlt := HC.out
                exact ⟨⟨c + 1, by omega, by go_num, HFIN⟩, by simp [intOf]; omega⟩
        · obtain rfl : c = j := by omega
          clear hlt hc h8
          obtain ⟨g, cp, hue, hcap, _, hgl, _⟩ := own_slice HQ.out.2.1 (by omega)
          subst hue
          have hE2 := (HQ.out.2.2.1.cell (p := ⟨1, 0, none⟩) (World.block_lt_of_cell? _ _ HE.out.1)).trans HE.out.1
          have h9 := consumer_any (some ⟨g, 0, none⟩) (c + c) cp (orD f1 t c (qo zs)) (orK f1 t c (qo zs)) (fun _ => 0) te ve wr (deeds_of_own HQ.out.2.1) (by omega) (by unfold orK; rw [if_pos (Nat.zero_le _)]; rfl) (fun i hi => or_good grows1 t (by omega) HQ.out.1 (by omega)) (fun i hi => or_does grows1 t (by omega) HQ.out.1 (by omega)) hE2
          clear hE2
          go_wp2_with fail
          refine h9.mono ?_
          rintro e w4 ⟨base, kv, sv, Af, cf, rfl, hk, hs, hWt, hb4, hbase⟩
          obtain ⟨gk, ck, rfl, hck, _, _, hkc⟩ := own_slice hk (by omega)
          obtain ⟨gs, cs, rfl, hcs, _, _, hsc⟩ := own_slice hs (by omega)
          have hB4 : Below w.heap.size w w4 := HQ.out.2.2.1.trans (hb4.mono HQ.out.2.2.1.size)
          have H4 := Lib.hid (And.intro hkc (And.intro hsc (And.intro hWt hB4)))
          clear hk hs hWt hb4 hbase hkc hsc h9 hB4
          go_wp2_with fail
          go_loopw [14, 15] (fun i _ wr => ∃ b : Nat, b ≤ c + c ∧ i = .int .i64 (b : Int) ∧ Hid (But (fun _ => False) w4 wr)) (fun i _ _ => c + c - (intOf i).toNat)
          case atStart => exact ⟨0, by omega, rfl, Lib.hid (But.refl _ w4)⟩
          case round =>
            obtain ⟨b, hb, rfl, HL⟩ := hrel
            by_cases hlt : b < c + c
            · have hG := or_good grows1 t (by omega : c ≤ 12) HQ.out.1 (i := b + 1) (by omega)
              have hlen := or_len grows1 t (by omega : c ≤ 12) HQ.out.1 (i := b + 1) (by omega)
              have hWb := (H4.out.2.2.1 b hlt).but HL.out (fun _ _ h => h)
              have hcell : ∀ (g i : Nat) (v : Value), w4.cell? ⟨g, i, none⟩ = some v → wr.cell? ⟨g, i, none⟩ = some v := fun g i v hv => by
                have h1 := World.block_lt_of_cell? _ _ hv
                simp only [World.cell?, HL.out.block g h1 (fun h => h)] at hv ⊢
                exact hv
              have hk0 : wr.cell? ⟨gk, b, none⟩ = some (.int .i64 0) := hcell _ _ _ (H4.out.1 b _ (kd_get (fun _ => 0) (c + c) b hlt))
              have hld : (Instr.loadAt 31 (.pointer (some ⟨gs, b * 6, none⟩))).run Tryd.prog wr = .ok (keepV (orK f1 t c (qo zs) (b + 1)) (Af b) (cf b) (.slice none 0 0)) wr := load_keep _ _ _ (fun r v hv => hcell _ _ _ (by
                have hr : r < 6 := (List.getElem?_eq_some_iff.1 hv).1
                exact H4.out.2.1 (b * 6 + r) v ((st_get (orK f1 t c (qo zs)) Af cf (c + c) b r hlt hr).trans hv)))
              generalize orK f1 t c (qo zs) (b + 1) = kc at hG hlen hWb hld
              generalize Af b = A1 at hWb hld
              generalize cf b = e1 at hld
              have hfd : (kc.fc : Int) ≤ (kc.dc : Int) := by have := hG.sound.fc; omega
              have hb0 : (0 : Int) ≤ (b : Int) := by omega
              have hb1 : (b : Int) < (c : Int) + (c : Int) := by omega
              have hb2 : (b : Int) < ((c + c : Nat) : Int) := by omega
              have h12 := fun o => sound_yes kc A1 e1 (wr.alloc o) (hWb.but ((But.refl (fun _ => False) wr).alloc o) (fun _ _ h => h)) hG.len hG.sound
              have HLT := Lib.hid hlt
              have hk1 := past hk0
              unfold keepV at hld h12
              obtain ⟨L, hL⟩ : ∃ L, kc.waits.length = L := ⟨_, rfl⟩
              rw [hL] at hld h12 hlen
              have HLEN := Lib.hid hlen
              clear hcell hWb hG hlt hL hk0 hlen
              go_upto_region 25 with fail
              go_upto_region 26 with (refine wpList_load_eq rfl 31 (.tmp 120) rfl _ _ rfl hld ?_)
              clear hld
              have hlen := HLEN.out
              by_cases hbc : b < c
              · have hL1 : (L : Int) = (b : Int) + 1 := by rw [hlen, if_pos (by omega)]; omega
                have hbc' : (b : Int) < (c : Int) := by omega
                have g1 : decide (c ≤ b) = false := by simp; omega
                have g2 : decide (b < c) = true := by simp; omega
                have g3 : decide (kc.dc < kc.fc) = false := by simp; omega
                have g4 : (L == b + 1) = true := by simp; omega
                clear hlen
                go_wp2_with fail
                with_reducible refine (h12 _).mono ?_
                rintro e w5 ⟨rfl, hb5⟩
                have HB5 := Lib.hid ((HL.out.alloc (.cells #[.int .u64 (kc.dc : Int), .int .u64 (kc.ds : Int), .int .u64 (kc.fc : Int), .int .u64 (kc.fs : Int), .slice A1 L e1, .slice none 0 0] 31)).trans (But.of hb5))
                clear hb5 h12
                go_wp2_with fail
                have hlt := HLT.out
                exact ⟨⟨b + 1, by omega, by go_num, HB5⟩, by simp [intOf]; omega⟩
              · have hL1 : (L : Int) = 2 * (c : Int) - 1 - (b : Int) := by
                  rw [hlen]
                  split <;> omega
                have hbc' : (c : Int) ≤ (b : Int) := by omega
                have g1 : decide (c ≤ b) = true := by simp; omega
                have g2 : decide (b < c) = false := by simp; omega
                have g3 : decide (kc.dc < kc.fc) = false := by simp; omega
                clear hlen
                go_wp2_with fail
                with_reducible refine (h12 _).mono ?_
                rintro e w5 ⟨rfl, hb5⟩
                have HB5 := Lib.hid ((HL.out.alloc (.cells #[.int .u64 (kc.dc : Int), .int .u64 (kc.ds : Int), .int .u64 (kc.fc : Int), .int .u64 (kc.fs : Int), .slice A1 L e1, .slice none 0 0] 31)).trans (But.of hb5))
                clear hb5 h12
                go_wp2_with fail
                have hlt := HLT.out
                exact ⟨⟨b + 1, by omega, by go_num, HB5⟩, by simp [intOf]; omega⟩
            · obtain rfl : b = c + c := by omega
              obtain ⟨l, hl⟩ : ∃ l, c + c = l + 1 := ⟨c + c - 1, by omega⟩
              have hlast := last_all t (by omega : c ≤ 12) (by omega) HQ.out.1
              have hcell : ∀ (g i : Nat) (v : Value), w4.cell? ⟨g, i, none⟩ = some v → wr.cell? ⟨g, i, none⟩ = some v := fun g i v hv => by
                have h1 := World.block_lt_of_cell? _ _ hv
                simp only [World.cell?, HL.out.block g h1 (fun h => h)] at hv ⊢
                exact hv
              have hld : (Instr.loadAt 31 (.pointer (some ⟨gs, l * 6, none⟩))).run Tryd.prog wr = .ok (keepV (orK f1 t c (qo zs) (l + 1)) (Af l) (cf l) (.slice none 0 0)) wr := load_keep _ _ _ (fun r v hv => hcell _ _ _ (by
                have hr : r < 6 := (List.getElem?_eq_some_iff.1 hv).1
                exact H4.out.2.1 (l * 6 + r) v ((st_get (orK f1 t c (qo zs)) Af cf (c + c) l r (by omega) hr).trans hv)))
              rw [← hl, show c + c = 2 * c by omega, hlast] at hld
              unfold keepV at hld
              generalize Af l = A1 at hld
              generalize cf l = e1 at hld
              have hB5 : Below w.heap.size w wr := But.below H4.out.2.2.2 HL.out (fun _ h => h.elim) H4.out.2.2.2.size
              have hE5 := (hB5.cell (p := ⟨1, 0, none⟩) (World.block_lt_of_cell? _ _ HE.out.1)).trans HE.out.1
              have h8 := fun o => awake_any te ve (wr.alloc o) (past hE5 o)
              have z0 : (0 : Int) ≤ (c : Int) + (c : Int) - 1 := by omega
              have z1 : (c : Int) + (c : Int) - 1 < (c : Int) + (c : Int) := by omega
              have z2 : ((c : Int) + (c : Int) - 1).toNat = l := by omega
              have HB5 := Lib.hid hB5
              clear hcell hlast hlt hb hB5 hE5 hl
              go_upto_region 28 with fail
              go_upto_region 29 with (refine wpList_load_eq rfl 31 (.tmp 174) rfl _ _ rfl hld ?_)
              clear hld
              go_wp2_with fail
              with_reducible refine (h8 _).mono ?_
              rintro e w6 ⟨rfl, hb6⟩
              have HB6 := Lib.hid ((HB5.out.alloc HB5.out.size _).trans (Below.mono hb6 (by have := HB5.out.size; simp; omega)))
              clear hb6 h8
              go_wp2_with fail
              go_ret
              exact ⟨rfl, HB6.out⟩
end Go.Proofs.YtchphfdoneckeaaDoor.consumerAll
