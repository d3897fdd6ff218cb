/-
  slices.Values over a subject's tokens, and isValidLiteralSubject: tokens that are words are valid.
-/
import Derived.Test.YtocfcajafkkhdaaDoorZSm
import Derived.RangeFuncBox
import Derived.RangeFuncNested
import Derived.RangeFuncBound
import Derived.RangeFuncCalls
import Derived.RangeFuncLeaves
import Derived.Shelf.Abstract
import Derived.Shelf.RegionOpen
import Derived.WalkKit
import Derived.OwnWalkIn
import Derived.TacticsInMore
import Derived.LoopNIn
import Derived.LoopIn
import Derived.Deep.Cut
namespace Go.Proofs.YtocfcajafkkhdaaDoor
open Go.RowKit Go.Shelf
attribute [local go_sem] Oper.semAt_some

/-- a text that is a word -/
abbrev Wt : Type := { t : ByteArray // ∃ h : 0 < t.size, (((t[0].toNat : Nat) : Int) == 42) = false ∧ (((t[0].toNat : Nat) : Int) == 62) = false }
def upto (zs : List Wt) (d : Wt) (k : Nat) : List Wt := (List.range k).map fun j => zs[j]?.getD d
theorem upto_succ (zs : List Wt) (d : Wt) (k : Nat) : upto zs d (k + 1) = upto zs d k ++ [zs[k]?.getD d] := by simp [upto, List.range_succ]
theorem upto_length (zs : List Wt) (d : Wt) (k : Nat) : (upto zs d k).length = k := by simp [upto]
theorem upto_all (zs : List Wt) (d : Wt) : upto zs d zs.length = zs := by
  apply List.ext_getElem
  · simp [upto]
  · intro i h1 h2
    simp [upto, h2]
theorem upto_take (zs : List Wt) (d : Wt) {k : Nat} (hk : k ≤ zs.length) : upto zs d k = zs.take k := by
  apply List.ext_getElem
  · simp [upto, hk]
  · intro i h1 h2
    have : i < zs.length := by simp [upto] at h1; omega
    simp [upto, this]
set_option maxRecDepth 100000 in
set_option maxHeartbeats 2000000 in
theorem values1_in (F : Fence) (n : Nat) (h7 : F.fn 40) (hro : F.round = none) (hn : 1 ≤ n) (l Bs n₀ b len cap : Nat) (zs : List Wt) (d : Wt) (hreach : len ≤ 1000) (hb : b < n₀) (J Jx : List Wt → World → Prop)
    (hY : ∀ pre x W, J pre W → pre.length < len → YieldAt F (n - 1) Tryd.prog l #[.string x.1] W fun e W' =>
      (e = .returned (.bool true) ∧ J (pre ++ [x]) W' ∧ Below n₀ W W') ∨ (e = .returned (.bool false) ∧ Jx (pre ++ [x]) W'))
    (W : World) (hBs : W.cell? ⟨Bs, 0, none⟩ = some (.slice (some ⟨b, 0, none⟩) len cap)) (hc : ∀ j, j < len → W.cell? ⟨b, j, none⟩ = some (.string (zs[j]?.getD d).1)) (h0 : J [] W) :
    CallsIn F n Tryd.prog 40 #[.func (.yield l) #[] #[], .pointer (some ⟨Bs, 0, none⟩)] W fun e W' => (∃ v, e = .returned v) ∧
      ((∃ ys, ys = upto zs d len ∧ J ys W') ∨ (∃ pre, (∃ k, k ≤ len ∧ pre = upto zs d k) ∧ Jx pre W')) := by
  refine callsIn_of_wp Tryd.func40 rfl h7 ?_ hro
  simp only [Tryd.ntmps40, List.size_toArray, List.length_cons, List.length_nil, Nat.reduceAdd, Nat.reduceSub, Array.replicate_succ, Array.replicate_zero, List.push_toArray, List.append_toArray, List.nil_append, List.cons_append]
  gi_wp2
  gi_loopw [7] (fun i wr => ∃ k : Nat, k ≤ len ∧ i = .int .i64 k ∧ J (upto zs d k) wr ∧ Below n₀ W wr)
    (fun i _ => len - (intOf i).toNat)
  case atStart => exact ⟨0, Nat.zero_le _, rfl, h0, Below.refl _ _⟩
  case round =>
    obtain ⟨k, hk, rfl, hJs, hnx⟩ := hrel
    have hcx : k < len → wr.cell? ⟨b, k, none⟩ = some (.string (zs[k]?.getD d).1) := fun h => (hnx.cell (p := ⟨b, k, none⟩) hb).trans (hc k h)
    by_cases hlt : k < len
    · obtain ⟨fn, tmps, assign, body, hy, hR⟩ := hY _ (zs[k]?.getD d) wr hJs (by rw [upto_length]; exact hlt)
      have hcx' := hcx hlt
      gi_wp2
      refine hR.mono ?_
      rintro e W3 (⟨rfl, hJ3, hk3⟩ | ⟨rfl, hJx3⟩)
      · gi_wp2
        go_roundw
        case rel => exact ⟨k + 1, by omega, by simp, by rw [upto_succ]; exact hJ3, hnx.trans hk3⟩
        case measure => simp [intOf]; omega
      · gi_wp2
        refine bodyPost_ret (results_none rfl _ _ _) rfl ?_
        exact ⟨⟨_, rfl⟩, .inr ⟨_, ⟨k + 1, by omega, (upto_succ _ _ _).symm⟩, hJx3⟩⟩
    · obtain rfl : k = len := by omega
      gi_wp2
      go_end0
      exact ⟨⟨_, rfl⟩, .inl ⟨_, rfl, hJs⟩⟩
theorem values_stops (F : Fence) (n : Nat) (h7 : F.fn 40) (hro : F.round = none) (hn : 1 ≤ n) (Bs n₀ b cap : Nat) (zs : List Wt) (d : Wt) (hreach : zs.length ≤ 1000) (w : World) (hBs : Bs < w.heap.size) (hn₀ : n₀ ≤ w.heap.size) (hb : b < n₀)
    (hc : w.cell? ⟨Bs, 0, none⟩ = some (.slice (some ⟨b, 0, none⟩) zs.length cap)) (hI : ∀ j, j < zs.length → w.cell? ⟨b, j, none⟩ = some (.string (zs[j]?.getD d).1)) :
    SeqStopsK F n Tryd.prog 40 #[.pointer (some ⟨Bs, 0, none⟩)] (fun x : Wt => #[Value.string x.1]) (Below n₀) (fun ys => ys = zs) (fun pre => pre <+: zs) zs.length w := fun l J Jx W hW _ _ hY h0 => by
  have hc' := (hW.cell (p := ⟨Bs, 0, none⟩) hBs).trans hc
  refine (values1_in F n h7 hro hn l Bs n₀ b zs.length cap zs d hreach hb J Jx hY W hc' (fun j hj => ((hW.mono hn₀).cell (p := ⟨b, j, none⟩) hb).trans (hI j hj)) h0).mono ?_
  rintro e W' ⟨he, ⟨ys, rfl, hj⟩ | ⟨pre, ⟨k, hk, rfl⟩, hj⟩⟩
  · exact ⟨he, .inl ⟨_, upto_all zs d, hj⟩⟩
  · exact ⟨he, .inr ⟨_, by rw [upto_take zs d hk]; exact List.take_prefix _ _, hj⟩⟩

def ValPost (w : World) (e : Ending) (w' : World) : Prop := e = .returned (.bool true) ∧ Below w.heap.size w w'
set_option maxRecDepth 100000 in
set_option maxHeartbeats 2000000 in
theorem valid_in (F : Fence) (n : Nat) (h3 : F.fn 30) (h7 : F.fn 40) (hro : F.round = none) (hn : 3 ≤ n) (Bs b cap : Nat) (zs : List Wt) (d : Wt) (hreach : zs.length ≤ 1000) (w : World) (hBs : Bs < w.heap.size) (hb : b < w.heap.size)
    (hc : w.cell? ⟨Bs, 0, none⟩ = some (.slice (some ⟨b, 0, none⟩) zs.length cap)) (hI : ∀ j, j < zs.length → w.cell? ⟨b, j, none⟩ = some (.string (zs[j]?.getD d).1)) :
    CallsIn F n Tryd.prog 30 #[.func (.func 40) #[] #[.pointer (some ⟨Bs, 0, none⟩)]] w (ValPost w) := by
  have h1 : 1 ≤ n := by omega
  refine callsIn_of_wp_marks Tryd.func30 rfl h3 ?_ hro
  simp only [Tryd.ntmps30, List.size_toArray, List.length_cons, List.length_nil, Nat.reduceAdd, Nat.reduceSub, Array.replicate_succ, Array.replicate_zero, List.push_toArray, List.append_toArray, List.nil_append, List.cons_append]
  gi_wp2
  have bR := Boxed.new w 4 (.bool false)
  have hB0 : Below w.heap.size w (w.alloc (.cells #[.bool false] 4)) := (Below.refl _ w).alloc (Nat.le_refl _) _
  have hc2 := (hB0.cell (p := ⟨Bs, 0, none⟩) hBs).trans hc
  refine wpIn_rangeFunc_ownG hro h1 (gf := 40) (lb := #[.pointer (some ⟨Bs, 0, none⟩)]) rfl h7 (enters_of Tryd.func40 (by kernel_rfl) rfl)
    (values_stops F (n - 1) h7 hro (by omega) Bs w.heap.size b cap zs d hreach _ (by simp; omega) (by simp) hb hc2 (fun j hj => (hB0.cell (p := ⟨b, j, none⟩) hb).trans (hI j hj))) belowK_t (belowK_b (by simp)) (Below.refl _ _) (fun _ => rfl)
    (fun _ W => (W.cell? ⟨w.heap.size, 0, none⟩ = some (.bool false) ∧ W.frozen? ⟨w.heap.size, 0, none⟩ = false) ∧ Below w.heap.size w W)
    (fun _ _ _ => False)
    (OwnFrom.and (Own.from (fun s A B row hs hg hr => ⟨cell_kept hs.1 hg hr, (frozen_kept hs.1 hg hr).trans hs.2⟩) _) (ownFrom_below (Nat.le_refl _) (by simp)))
    (fun _ _ _ _ _ hs _ _ => hs)
    ⟨⟨bR.cell, bR.frozen⟩, hB0⟩
    (fun x => { tmps := #[.func (.func 40) #[] #[.pointer (some ⟨Bs, 0, none⟩)], undef, .pointer (some ⟨w.heap.size, 0, none⟩), .string x.1, .func (.func 40) #[] #[.pointer (some ⟨Bs, 0, none⟩)], .string x.1, undef, undef, undef, undef, undef, undef, undef, undef, undef, undef, undef], defers := [] }) ?assign ?body ?done ?stop
  case assign =>
    intro l x W K hK
    gi_wp2
    exact hK
  case body =>
    rintro l pre x W ⟨⟨hc, hf⟩, hB⟩ _
    obtain ⟨x, hx0, hx1, hx2⟩ := x
    have z0 : ((x.size : Int) == 0) = false := by rw [beq_eq_false_iff_ne]; omega
    gi_wp2
    all_goals exact ⟨KeepsFrom.refl _ _, Below.refl _ _, ⟨hc, hf⟩, hB⟩
  case done =>
    rintro D ys W hD rfl ⟨⟨hcr, hfr⟩, hB⟩ hK
    gi_wp2
    have hK' := (KeepsOthers.setCell W ⟨w.heap.size, 0, none⟩ (.bool true)).same D _ hK rfl
    refine ⟨by simp, .inl ⟨_, _, rfl, run_takeDeferred hK', ?_⟩⟩
    have hc5 := cell_kept (World.cell?_setCell_same' W ⟨w.heap.size, 0, none⟩ (.bool true) (by rw [hcr]; rfl)) (grownBy_putObj' _ D (.deferred none)) (fun r e => by cases e; exact ⟨_, hK', rfl⟩)
    refine ⟨.bool true, ?_, rfl, (hB.setCell (p := ⟨w.heap.size, 0, none⟩) (Nat.le_refl _) _).trans (belowK_b (w := w) (Nat.le_refl _) _ D _ _ (by simp at hD; omega) hK' rfl rfl)⟩
    simp [results, Tryd.f30, go_sem, hc5]
  case stop =>
    rintro D c pre W _ _ h _
    exact h.elim
def MadePost (a : Option Addr) (len cap : Nat) (w : World) (e : Ending) (w' : World) : Prop := e = .returned (.func (.func 40) #[] #[.pointer (some ⟨w.heap.size, 0, none⟩)]) ∧ w' = w.alloc (.cells #[.slice a len cap] 22)
set_option maxRecDepth 100000 in
theorem made_any (a : Option Addr) (len cap : Nat) (w : World) : Calls Tryd.prog 31 #[.slice a len cap] w (MadePost a len cap w) := by
  go_enter Tryd.func31, Tryd.ntmps31
  go_wp2
  go_ret
  exact ⟨rfl, rfl⟩
theorem valid_any (Bs b cap : Nat) (toks : List (List UInt8)) (hreach : toks.length ≤ 1000) (h0 : 0 < toks.length) (w : World) (hBs : Bs < w.heap.size)
    (hc : w.cell? ⟨Bs, 0, none⟩ = some (.slice (some ⟨b, 0, none⟩) toks.length cap)) (hl : K.Lies w (some ⟨b, 0, none⟩) toks.length (fun j => (toks.map sv).getD j undef)) (hw : ∀ t ∈ toks, Wd t) :
    Calls Tryd.prog 30 #[.func (.func 40) #[] #[.pointer (some ⟨Bs, 0, none⟩)]] w (ValPost w) := by
  have hwt : ∀ t, Wd t → ∃ x : Wt, sv t = .string x.1 := fun t ht => by
    obtain ⟨c, r, htr, _, n42, n62, _⟩ := ht
    obtain ⟨p0, p1⟩ := first_of (tb := ⟨t.toArray⟩) (show (⟨t.toArray⟩ : ByteArray).data.toList = c :: r from htr)
    exact ⟨⟨⟨t.toArray⟩, p0, ne_int (show (⟨t.toArray⟩ : ByteArray)[0] ≠ 42 from by rw [p1]; exact n42), ne_int (show (⟨t.toArray⟩ : ByteArray)[0] ≠ 62 from by rw [p1]; exact n62)⟩, rfl⟩
  obtain ⟨d, _⟩ := hwt (toks.getD 0 []) (hw _ (by simp [List.getD, h0]))
  have hex : ∀ j : Nat, ∃ x : Wt, j < toks.length → sv (toks.getD j []) = .string x.1 := fun j => by
    by_cases hj : j < toks.length
    · obtain ⟨x, hx⟩ := hwt (toks.getD j []) (hw _ (by simp [List.getD, hj]))
      exact ⟨x, fun _ => hx⟩
    · exact ⟨d, fun h => absurd h hj⟩
  obtain ⟨f, hf⟩ := Classical.axiomOfChoice hex
  obtain ⟨b', o', e1, hb, hcs⟩ := hl h0
  injection e1 with e1
  injection e1 with e1 e2 _
  subst e1 e2
  have hlen : ((List.range toks.length).map f).length = toks.length := by simp
  refine callsIn_wide.1 (valid_in Fence.wide 3 trivial trivial rfl (Nat.le_refl _) Bs b cap ((List.range toks.length).map f) d (by rw [hlen]; exact hreach) w hBs hb (by rw [hlen]; exact hc) ?_)
  intro j hj
  rw [hlen] at hj
  have h5 := hcs j hj
  rw [Nat.zero_add] at h5
  rw [h5]
  have h6 := hf j hj
  simp only [List.getD] at h6 ⊢
  simp [hj] at h6 ⊢
  exact h6

/-- a subject's tokens and a source in text -/
def SubPost (b : Bool) (w : World) (e : Ending) (w' : World) : Prop := e = .returned (.bool b) ∧ Below w.heap.size w w'
set_option maxHeartbeats 4000000 in
set_option maxRecDepth 100000 in
theorem issub_any (tg : Nat) (toks : List (List UInt8)) (s : ByteArray) (w : World) (hs : s.size ≤ 100000) (hn : (sp 46 s.data.toList).length ≤ 32) (h1 : toks.length ≤ 1000) (hl : K.Lies w (some ⟨tg, 0, none⟩) toks.length (fun j => (toks.map sv).getD j undef))
    (ht : ∀ t ∈ toks, Wd t) (hk : ∀ t ∈ sp 46 s.data.toList, Sk t) : Calls Tryd.prog 32 #[.slice (some ⟨tg, 0, none⟩) toks.length 32, .string s] w (SubPost (mtc toks (sp 46 s.data.toList)) w) := by
  have HH := Lib.hid (And.intro hl (And.intro ht hk))
  clear hl ht hk
  obtain ⟨cs, hcs, hz, hst⟩ := lay85
  have hst0 := hst w
  clear hst
  go_enter Tryd.func32, Tryd.ntmps32
  go_upto_region 2 with (fail)
  have HA := Lib.hid (ArrP.new w cs hcs)
  have hb0 : Below w.heap.size w (w.alloc (.cells cs 85)) := (Below.refl _ _).alloc (Nat.le_refl _) _
  have hsz : w.heap.size < (w.alloc (.cells cs 85)).heap.size := by simp
  clear hcs hz hst0
  generalize w.alloc (.cells cs 85) = w0 at HA hb0 hsz ⊢
  have h41 := into_any s w.heap.size w0 hs hn HA.out
  go_wp2_with fail
  refine h41.mono ?_
  rintro e w1 ⟨rfl, hg, hl1⟩
  have hb1 : Below w.heap.size w w1 := hb0.grown hg (Nat.le_of_lt hsz) (fun k hk => by cases hk; exact Nat.le_refl _)
  have h42 := subset_any tg w.heap.size toks (sp 46 s.data.toList) w1 h1 (by omega) (HH.out.1.below hb1 (Nat.le_refl _)) hl1 HH.out.2.1 HH.out.2.2
  have HB := Lib.hid hb1
  clear hg hl1 hb1 hb0 h41
  go_wp2_with fail
  refine h42.mono ?_
  rintro e w2 ⟨rfl, rfl⟩
  clear h42
  go_wp2_with fail
  go_ret
  exact ⟨rfl, HB.out⟩
end Go.Proofs.YtocfcajafkkhdaaDoor
