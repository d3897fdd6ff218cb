/-
  impl.ParseDN: the names that the package reads, as plain slices.
-/
import Derived.Test.YtnjjhklefamaoaaDoorParse
import Derived.Test.YtnjjhklefamaoaaDoorMachB
import Derived.Deep.RegionHeld3
import Derived.Deep.DrawnRows
namespace Go.Proofs.YtnjjhklefamaoaaDoor
open Go.RowKit
open Dn (Attr Name)
attribute [local go_sem ↓] Go.wp_at_zero Go.wp_at_succ

theorem info32 : (Tryd.prog.info? 32).map (fun i => (i.zero, i.size, i.bytes)) = some (some (.agg #[.string ⟨#[]⟩, .string ⟨#[]⟩]), 2, 32) := by kernel_rfl
theorem info30 : (Tryd.prog.info? 30).map (fun i => (i.zero, i.size, i.bytes)) = some (some (.slice none 0 0), 1, 24) := by kernel_rfl
def cellsA (l : List Attr) : List Value := l.flatMap fun a => [.string a.1, .string a.2]
theorem cellsA_length (l : List Attr) : (cellsA l).length = l.length * 2 := by
  induction l with
  | nil => rfl
  | cons a l ih => simp [cellsA] at *; omega
theorem cellsA_at : ∀ (l : List Attr) (j : Nat), j < l.length → (cellsA l)[j * 2]? = some (.string (atA l j).1) ∧ (cellsA l)[j * 2 + 1]? = some (.string (atA l j).2)
  | [], j, h => by simp at h
  | a :: l, 0, _ => ⟨rfl, rfl⟩
  | a :: l, j + 1, h => by
    have := cellsA_at l j (by simpa using h)
    rw [show (j + 1) * 2 = j * 2 + 1 + 1 from by omega]
    exact this
theorem cellsA_snoc (l : List Attr) (a : Attr) : cellsA (l ++ [a]) = cellsA l ++ [.string a.1, .string a.2] := by simp [cellsA]
theorem take_succ_at (l : List Attr) (q : Nat) (h : q < l.length) : l.take (q + 1) = l.take q ++ [atA l q] := by
  rw [List.take_succ_eq_append_getElem h]
  simp [atA, List.getD, h]

/-- a finished slice of attributes, in a row of the call's own -/
def RowA (w : World) (v : Value) (l : List Attr) : Prop := w.ownsRow 0 32 2 v l.length (cellsA l)
theorem row_block2 {w : World} {base : Nat} {e : TypeId} {u : Value} {z n : Nat} {ps : List Value} (h : w.ownsRow base e z u n ps) {g : Nat} (hg : u.ownBlock = some g) : ∃ cur, w.heap[g]? = some (.cells cur e (0, 0)) := by
  rcases h.2 with ⟨rfl, _⟩ | ⟨g', cap, cur, rfl, _, hb, _⟩
  · simp [Value.ownBlock] at hg
  · simp [Value.ownBlock] at hg
    subst hg
    exact ⟨cur, hb⟩
theorem row_move2 {w w' : World} {base base' : Nat} {e : TypeId} {u : Value} {z n : Nat} {ps : List Value} (h : w.ownsRow base e z u n ps) (hb : ∀ g, u.ownBlock = some g → base' ≤ g ∧ w'.heap[g]? = w.heap[g]?) : w'.ownsRow base' e z u n ps := by
  refine ⟨h.1, ?_⟩
  rcases h.2 with hn | ⟨g, cap, cur, rfl, _, hg, rest⟩
  · exact .inl hn
  · obtain ⟨h1, h2⟩ := hb g rfl
    exact .inr ⟨g, cap, cur, rfl, h1, h2.trans hg, rest⟩
theorem RowA.keep {w w' : World} {v : Value} {l : List Attr} (h : RowA w v l) (hs : Stays (· = 32) w w') : RowA w' v l := by
  refine row_move2 h fun g hg => ⟨Nat.zero_le _, ?_⟩
  obtain ⟨cur, hc⟩ := row_block2 h hg
  rw [hs _ _ _ _ rfl hc, hc]
theorem RowA.read {w : World} {v : Value} {l : List Attr} (h : RowA w v l) (hf : Fit l) : AttrsV w v l := by
  rcases h.2 with ⟨rfl, hn⟩ | ⟨g, cap, cur, rfl, _, hg, hnc, hcm, _, _⟩
  · have : l = [] := List.length_eq_zero_iff.1 hn
    subst this
    exact ⟨none, 0, 0, rfl, Nat.le_refl _, by unfold maxLen; omega, ⟨rfl, fun h => by omega⟩, hf⟩
  · refine ⟨_, _, cap, rfl, hnc, hcm, ⟨rfl, fun _ => ⟨g, 0, rfl, lt_of hg, fun j hj => ?_⟩⟩, hf⟩
    obtain ⟨c0, c1⟩ := cellsA_at l j hj
    have d0 := World.ownsRow.cells h (g := g) rfl _ _ c0
    have d1 := World.ownsRow.cells h (g := g) rfl _ _ c1
    rw [Addr.add_lit] at d0 d1
    simp only [Nat.zero_add] at *
    exact ⟨d0, d1⟩

def ReadPost (l : Name) (w : World) (e : Ending) (w' : World) : Prop := ∃ v, e = .returned (.tuple #[v, .bool true]) ∧ NamesV w' v l ∧ Below w.heap.size w w'

set_option maxHeartbeats 20000000 in
set_option maxRecDepth 100000 in
theorem read_any (s : ByteArray) (τ : Dn.St) (w : World) (hs : s.size ≤ 900) (hr : Dn.Runs s.data.toList 0 Dn.init s.size τ) (ht : τ.buf = [] ∨ 0 < τ.ty.size) : Calls Tryd.prog 8 #[.string s] w (ReadPost (Dn.final τ) w) := by
  have hT := Dn.final_tight (hr.tight Dn.tight_init)
  have HP := Lib.hid (parse_any s τ w hs hr ht)
  have hL : (Dn.final τ).length ≤ 901 ∧ ∀ l ∈ Dn.final τ, l.length ≤ 901 ∧ ∀ a ∈ l, a.1.size ≤ 900 ∧ a.2.size ≤ 900 := ⟨by have := hT.1; omega, fun l hl => ⟨by have := (hT.2 l hl).1; omega, fun a ha => ⟨by have := ((hT.2 l hl).2 a ha).1; omega, by have := ((hT.2 l hl).2 a ha).2; omega⟩⟩⟩
  have HL := Lib.hid hL
  clear hr ht hT hL
  obtain ⟨i2, hi2, hz20, hz21, hz22⟩ := info_parts info32
  obtain ⟨i3, hi3, hz30, hz31, hz32⟩ := info_parts info30
  go_enter Tryd.func8, Tryd.ntmps8
  go_wp2_with fail
  refine HP.out.mono ?_
  rintro e w1 ⟨rfl, hp, hb⟩
  generalize Dn.final τ = l at *
  obtain ⟨D, A, n, cap, hD, cD, hn, hnc, hcm, hrd⟩ := hp
  simp only [Value.pointer.injEq, Option.some.injEq, Addr.mk.injEq, and_true] at hD
  have HB1 := Lib.hid hb
  have HRD := Lib.hid hrd
  have HCD := Lib.hid cD
  subst hD
  clear hb hrd HP hcm
  go_wp2_with fail
  go_loopg [6, 2, 7, 8] (n + 1) (fun gk i x _ _ wr => ∃ (k : Nat) (u : Value) (vs : List Value), u = x ∧ k ≤ n ∧ gk = n + 1 - k ∧ i = .int .i64 k ∧ K.Grew w1 wr ∧ Hid (wr.ownsRow w1.heap.size 30 1 u k vs ∧ ∀ j, j < k → RowA wr (vs.getD j undef) (Dn.at' l j)))
  case atStart => exact ⟨0, _, [], rfl, by omega, by omega, rfl, K.Grew.refl _, Lib.hid ⟨World.ownsRow_nil _ _ _ _, fun j hj => by omega⟩⟩
  case round =>
    obtain ⟨k, u, vs, rfl, hk, hg, rfl, hb, HV⟩ := hrel
    have HB := Lib.hid hb
    have d0 := HB.out.cell HCD.out
    clear hb cD
    by_cases hlt : k < n
    · obtain ⟨rg, ro, rfl, hcs⟩ := HRD.out.2 (by omega)
      obtain ⟨vR, cR', hvR⟩ := hcs k hlt
      have cR := HB.out.cell cR'
      obtain ⟨R, Y, m, capY, rfl, cY', hm, hra⟩ := hvR
      have cY := HB.out.cell cY'
      have HRA := Lib.hid hra
      have HCC := Lib.hid (And.intro cR' cY')
      have b0 : (0 : Int) ≤ (k : Int) := by omega
      have b1 : (k : Int) < (n : Int) := by omega
      clear hcs cR' cY' hra
      go_wp2_with fail
      obtain ⟨wo, hwo⟩ : ∃ wo : World, wo = wr := ⟨_, rfl⟩
      subst hwo
      go_loopg [8, 7] (m + 1) (fun g2 i2 x wi => ∃ (q : Nat) (v : Value), v = x ∧ q ≤ m ∧ g2 = m + 1 - q ∧ i2 = .int .i64 q ∧ K.Grew wo wi ∧ Hid (wi.ownsRow wo.heap.size 32 2 v q (cellsA ((Dn.at' l k).take q))))
      case atStart => exact ⟨0, _, rfl, by omega, by omega, rfl, K.Grew.refl _, Lib.hid (World.ownsRow_nil _ _ _ _)⟩
      case round =>
        obtain ⟨q, v, rfl, hq, hg2, rfl, hb2, HW⟩ := hrel
        have HB2 := Lib.hid hb2
        have HB3 := Lib.hid (HB.out.then hb2)
        have d0 := HB3.out.cell HCD.out
        have cR := HB3.out.cell HCC.out.1
        have cY := HB3.out.cell HCC.out.2
        have hw1 : w1.heap.size ≤ wo.heap.size := Below.size HB.out
        have hwi : wo.heap.size ≤ wr.heap.size := Below.size HB2.out
        clear hb2
        by_cases hq2 : q < m
        · obtain ⟨ag, ao, rfl, hcs2⟩ := HRA.out.2 (by omega)
          obtain ⟨vA, cA', hvA⟩ := hcs2 q hq2
          obtain ⟨ab, rfl, e0', e1'⟩ := hvA
          have cA := HB3.out.cell cA'
          have e0 := HB3.out.cell e0'
          have e1 := HB3.out.cell e1'
          have b2 : (0 : Int) ≤ (q : Int) := by omega
          have b3 : (q : Int) < (m : Int) := by omega
          have hlD := World.block_lt_of_cell? _ _ HCD.out
          have hlR := World.block_lt_of_cell? _ _ HCC.out.1
          have hlY := World.block_lt_of_cell? _ _ HCC.out.2
          have hlA := World.block_lt_of_cell? _ _ cA'
          have hl0 := World.block_lt_of_cell? _ _ e0'
          simp only at hlD hlR hlY hlA hl0
          have HTS := Lib.hid (take_succ_at (Dn.at' l k) q (by rw [HRA.out.1]; exact hq2))
          clear hcs2 cA' e0' e1'
          generalize atA (Dn.at' l k) q = a at *
          obtain ⟨p1, p2⟩ := a
          simp only at e0 e1
          have hnb : ∀ b, b < w1.heap.size → some b ≠ v.ownBlock := fun b hb e => by have := (HW.out.lt b e.symm).1; omega
          have hnw : ((wr.alloc (.cells #[.string p1, .string p2] 32)).drew).heap[wr.heap.size]? = some (.cells #[.string p1, .string p2] 32 (0, 0)) := K.heap_alloc_at _ _
          have n1 := World.new_ne wr _ d0
          have n2 := World.new_ne wr _ cR
          have n3 := World.new_ne wr _ cY
          have n4 := World.new_ne wr _ cA
          have n5 := World.new_ne wr _ e0
          have n6 := World.new_ne wr _ e1
          go_wp2_with fail
          go_region_held3 (fun w' => w'.cell? ⟨w.heap.size, 0, none⟩ = some (.slice (some ⟨rg, ro, none⟩) n cap) ∧ w'.cell? ⟨rg, ro + k, none⟩ = some (.pointer (some ⟨R, 0, none⟩)) ∧ w'.cell? ⟨R, 0, none⟩ = some (.slice (some ⟨ag, ao, none⟩) m capY) ∧ w'.cell? ⟨ag, ao + q, none⟩ = some (.pointer (some ⟨ab, 0, none⟩)) ∧ w'.cell? ⟨ab, 0, none⟩ = some (.string p1) ∧ w'.cell? ⟨ab, 1, none⟩ = some (.string p2))
            (first
              | go_keep
              | (go_split_ands
                 refine ⟨?_, ?_, ?_, ?_, ?_, ?_⟩
                 · (rw [hgrow.cell_far _ (by simp; omega) (hnb _ (by assumption))]; assumption)
                 · (rw [hgrow.cell_far _ (by simp; omega) (hnb _ (by assumption))]; assumption)
                 · (rw [hgrow.cell_far _ (by simp; omega) (hnb _ (by assumption))]; assumption)
                 · (rw [hgrow.cell_far _ (by simp; omega) (hnb _ (by assumption))]; assumption)
                 · (rw [hgrow.cell_far _ (by simp; omega) (hnb _ (by assumption))]; assumption)
                 · (rw [hgrow.cell_far _ (by simp; omega) (hnb _ (by assumption))]; assumption)))
            ((refine step_append_lies _ (by rfl) _ _ _ (by rfl) wo.heap.size 32 i2 _ 2 32 Tryd.underlying30 hi2 hz20 hz21 hz22 rfl (by omega) v q (cellsA ((Dn.at' l k).take q)) (by rfl) ((HW.out.alloc _).drew)
                  ⟨wr.heap.size, 0, none⟩ 1 1 [.string p1, .string p2] (by rfl) (by rfl) (World.news_of_block (cs := #[.string p1, .string p2]) (t := 32) (fr := (0, 0)) hnw) (by simp [Value.oneCell'])
                  (by omega) (by unfold maxLen; omega) (by omega) (by simp; omega) (wr.heap.size + 1) (by simp) ?_; intro gg cp w2 hown1 hgrow hat hlt1))
          have hrow : w2.ownsRow wo.heap.size 32 2 (.slice (some ⟨gg, 0, none⟩) (q + 1) cp) (q + 1) (cellsA ((Dn.at' l k).take (q + 1))) := by
            rw [HTS.out, cellsA_snoc]; exact hown1
          have HQ := Lib.hid hrow
          have HG2 := Lib.hid (show K.Grew wo w2 from Below.grown (Below.drew (Below.alloc HB2.out hwi (.cells #[.string p1, .string p2] 32))) hgrow (by simp; omega) (fun g hg => (HW.out.lt g hg).1))
          clear hown1 hgrow hat hlt1 hrow
          go_wp2_with fail
          go_roundg (m - q)
          case measure => omega
          case rel => exact ⟨q + 1, _, rfl, by omega, by omega, by go_num, HG2.out, HQ⟩
        · obtain rfl : q = m := by omega
          obtain ⟨vA, vc, rfl⟩ : ∃ A c, v = .slice A q c := by
            rcases HW.out.2 with ⟨h1, h2⟩ | ⟨g, c, cur, h1, _⟩
            · exact ⟨none, 0, by rw [h1, h2]⟩
            · exact ⟨_, c, h1⟩
          have hu : wr.ownsRow w1.heap.size 30 1 u k vs := row_move2 HV.out.1 fun g hg => ⟨(HV.out.1.lt g hg).1, Below.block HB2.out g (HV.out.1.lt g hg).2⟩
          have HU := Lib.hid hu
          clear hu
          go_wp2_with (at_builtin; refine Hid.out ?_)
          refine Lib.hid ?_
          refine wpList_append_lies _ rfl _ _ _ rfl w1.heap.size 30 i3 _ 1 24 Tryd.underlying23 hi3 hz30 hz31 hz32 rfl (by omega) u k vs rfl (HU.out.alloc _) ⟨wr.heap.size, 0, none⟩ 1 1 [.slice vA q vc] rfl rfl (World.news_of_block (cs := #[.slice vA q vc]) (t := 30) (fr := (0, 0)) (new _ _ rfl)) (by simp [Value.oneCell']) (by omega) (by unfold maxLen; omega) (by omega) (by simp; omega) (wr.heap.size + 1) (by simp) ?_
          intro gg cp w2 hown1 hgrow hat hlt1
          have s32 : Stays (· = 32) wr w2 := by
            refine (stays_below ((Below.refl _ wr).alloc (Nat.le_refl _) _)).trans ((stays_grown (e := 30) hgrow fun g hg => ?_).mono fun t ht => by subst ht; decide)
            obtain ⟨cur, hc⟩ := row_block2 HU.out hg
            exact ⟨cur, (0, 0), (Below.heap_alloc _ _ _ (lt_of hc)).trans hc⟩
          have hlen : vs.length = k := by have := HU.out.1; simpa using this
          have hrows : ∀ j, j < k + 1 → RowA w2 ((vs ++ [Value.slice vA q vc]).getD j undef) (Dn.at' l j) := by
            intro j hj
            rcases Nat.lt_or_ge j k with h1 | h1
            · rw [getD_app_lt (by omega)]
              exact ((HV.out.2 j h1).keep (stays_below HB2.out)).keep s32
            · obtain rfl : j = k := by omega
              rw [show (vs ++ [Value.slice vA q vc]).getD j undef = Value.slice vA q vc from by rw [← hlen]; exact getD_app_eq]
              refine RowA.keep ?_ s32
              have h2 := HW.out
              rw [List.take_of_length_le (by rw [HRA.out.1]; omega)] at h2
              unfold RowA
              rw [HRA.out.1]
              exact row_move2 h2 fun g hg => ⟨Nat.zero_le _, rfl⟩
          have HN := Lib.hid (And.intro hown1 hrows)
          have HG2 := Lib.hid (show K.Grew w1 w2 from Below.grown (Below.alloc HB3.out (by omega) (.cells #[.slice vA q vc] 30)) hgrow (by simp; omega) (fun g hg => (HU.out.lt g hg).1))
          clear hown1 hgrow hat hlt1 hrows s32
          go_wp2_with fail
          go_roundg (n - k)
          case measure => omega
          case rel => exact ⟨k + 1, _, _, rfl, by omega, by omega, by go_num, HG2.out, HN⟩
    · obtain rfl : k = n := by omega
      go_wp2_with fail
      go_ret2
      refine ⟨u, rfl, ?_, HB1.out.trans (Below.mono HB.out (Below.size HB1.out))⟩
      obtain ⟨X, c, rfl, h1, h2, h3, h4⟩ := row_read HV.out.1
      refine ⟨X, k, c, rfl, h1, h2, HRD.out.1, fun h0 => ?_⟩
      obtain ⟨g, rfl, hc⟩ := h4 h0
      refine ⟨g, 0, rfl, World.block_lt_of_cell? _ _ (hc 0 h0), fun j hj => ⟨_, hc j hj, (HV.out.2 j hj).read fun a ha => ?_⟩⟩
      have := (HL.out.2 _ (at_mem (l := l) (k := j) (by rw [HRD.out.1]; exact hj))).2 a ha
      unfold maxLen; omega
end Go.Proofs.YtnjjhklefamaoaaDoor
