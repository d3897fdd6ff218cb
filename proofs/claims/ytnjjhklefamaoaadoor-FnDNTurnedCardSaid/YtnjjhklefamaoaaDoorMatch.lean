/-
  DN.RDNsMatch where part i is equal to part j of the other name just if i is j: it says yes.
-/
import Derived.Test.YtnjjhklefamaoaaDoorEqual
import Derived.OwnWalk
import Derived.Laws.OwnMore
namespace Go.Proofs.YtnjjhklefamaoaaDoor
open Go.RowKit
open Dn (Attr Name)

theorem info4 : (Tryd.prog.info? 4).map (fun i => (i.zero, i.size, i.bytes)) = some (some (.bool false), 1, 1) := by kernel_rfl
theorem u71 : Tryd.prog.underlying 71 = some (.slice 4) := by kernel_rfl
def flags (n k : Nat) : Array Value := ((List.range n).map fun j => Value.bool (decide (j < k))).toArray
theorem flags_zero (n : Nat) : (madeCells (Value.bool false).cells (n * 1)).toList = (flags n 0).toList := by
  rw [show (Value.bool false).cells = #[.bool false] from rfl, toList_madeCells_one, flags]
  simp only [Nat.mul_one]
  refine (List.eq_replicate_iff.2 ⟨by simp, fun x hx => ?_⟩).symm
  simp only [List.mem_map, Nat.not_lt_zero, decide_false] at hx
  obtain ⟨_, _, rfl⟩ := hx; rfl
theorem flags_set (n k : Nat) : (flags n k).setIfInBounds k (.bool true) = flags n (k + 1) := by
  unfold flags
  apply Array.ext
  · simp
  · intro i h1 h2
    simp only [List.size_toArray, List.length_map, List.length_range] at h2
    simp only [List.setIfInBounds_toArray, List.getElem_toArray, List.getElem_set, List.getElem_map, List.getElem_range]
    by_cases h : k = i
    · subst h; simp
    · rw [if_neg h]
      congr 1
      rw [decide_eq_decide]; omega
theorem flags_at {w : World} {M n k q : Nat} (h : w.heap[M]? = some (.cells (flags n k) 4 (0, 0))) (hq : q < n) : w.cell? ⟨M, q, none⟩ = some (.bool (decide (q < k))) := by
  simp [World.cell?, h, flags, hq]
theorem flags_fz {w : World} {M n k q : Nat} (h : w.heap[M]? = some (.cells (flags n k) 4 (0, 0))) : w.frozen? ⟨M, q, none⟩ = false := by
  simp [World.frozen?, h]

theorem row_flags {w : World} {B M n : Nat} (h : w.ownsRow B 4 1 (.slice (some ⟨M, 0, none⟩) n n) n (madeCells (Value.bool false).cells (n * 1)).toList) : w.heap[M]? = some (.cells (flags n 0) 4 (0, 0)) := by
  rcases h.2 with ⟨h', _⟩ | ⟨g, cap, cur, e, _, hg, _, _, hs, ht⟩
  · cases h'
  · simp only [Value.slice.injEq, Option.some.injEq, Addr.mk.injEq, and_true, true_and] at e
    obtain ⟨rfl, rfl⟩ := e
    rw [hg]
    congr 2
    rw [flags_zero, List.take_of_length_le (by simp [hs])] at ht
    exact Array.ext' ht
theorem grew_of {w w' : World} (h : w.grownBy w' none) : Below w.heap.size w w' := (Below.refl _ _).grown h (Nat.le_refl _) (fun k hk => by cases hk)

set_option maxHeartbeats 8000000 in
set_option maxRecDepth 100000 in
theorem match_any (u v : Value) (x y : Name) (w : World) (hx : PDn w u x) (hy : PDn w v y) (hxs : ShortN x) (hys : ShortN y) (hlen : x.length = y.length)
    (hone : ∀ i j, i < x.length → j < x.length → Dn.rdnEq (Dn.at' x i) (Dn.at' y j) = decide (i = j)) : Calls Tryd.prog 28 #[u, v] w (BoolIs true w) := by
  obtain ⟨xb, A, n, cap, rfl, c0, hn, hnc, hcm, hxa⟩ := hx
  obtain ⟨yb, A2, m, cap2, rfl, c1, hm, hmc, hcm2, hya⟩ := hy
  obtain rfl : n = m := by rw [← hxa.1, ← hya.1]; exact hlen
  have hone2 : ∀ j, j < n → Dn.rdnEq (Dn.at' x j) (Dn.at' y j) = true := fun j hj => by rw [hone j j (by rw [hxa.1]; exact hj) (by rw [hxa.1]; exact hj)]; simp
  have HX := Lib.hid hxa
  have HY := Lib.hid hya
  have HC := Lib.hid (And.intro c0 c1)
  have HS := Lib.hid (And.intro hxs hys)
  have H1 := Lib.hid hone2
  clear hxa hya hxs hys hcm hcm2 hlen hone hone2 hm
  obtain ⟨i0, hi, hz0, hz1, hz2⟩ := info_parts info4
  go_enter Tryd.func28, Tryd.ntmps28
  go_wp2_with fail
  refine K.wp_region_grew (by kernel_rfl) (by kernel_rfl) ?_
  repeat (first
    | go_big_quiet_skip
    | (go_big_quiet_want; go_big_quiet_op; go_big_quiet_on)
    | (go_big_quiet_want; go_big_quiet_op; refine ⟨_, fun _ _ => rfl, ?_⟩; go_big_quiet_on)
    | (go_big_quiet_want; refine K.quiet_cell (v := ?_) ?_ _ _ rfl rfl ?_ ?_
       rotate_left
       · assumption
       · (intro w hw; go_simp)
       simp only [Act.put, List.setIfInBounds_toArray, List.set_cons_zero, List.set_cons_succ]
       go_big_quiet_on)
    | (go_big_quiet_want; refine K.quiet_load _ _ rfl _ rfl ?_ ?_ ?_
       rotate_left
       · assumption
       simp only [Act.put, List.setIfInBounds_toArray, List.set_cons_zero, List.set_cons_succ]
       go_big_quiet_on))
  refine wpQuiet_nil ?_
  intro w' hw'
  have HW := Lib.hid hw'
  have d0 := HW.out.cell c0
  have d1 := HW.out.cell c1
  clear hw' c0 c1
  go_wp2_with (at_make; refine wpList_make_full _ rfl _ _ 71 rfl w.heap.size 4 i0 (.bool false) 1 u71 hi hz0 hz1 .i64 .i64 _ _ n rfl rfl rfl rfl (by rw [hz2]; omega) (by unfold maxLen; omega) (by have := HW.out.size; omega) ?_; intro w2 hown hgr; have HG := Lib.hid (HW.out.then (grew_of hgr)); have f0 := HG.out.cell HC.out.1; have f1 := HG.out.cell HC.out.2; have HM := Lib.hid (row_flags hown); have hMw := HW.out.size; clear hown hgr)
  generalize w'.heap.size = M at *
  go_loopg [33, 7, 8, 9, 10] (n + 1) (fun gk i _ _ _ _ wr => ∃ k : Nat, k ≤ n ∧ gk = n + 1 - k ∧ i = .int .i64 k ∧ K.Grew w wr ∧ Hid (wr.heap[M]? = some (.cells (flags n k) 4 (0, 0))))
  case atStart => exact ⟨0, by omega, by omega, rfl, HG.out, HM⟩
  case round =>
    obtain ⟨k, hk, hg, rfl, hb, HF⟩ := hrel
    have HB := Lib.hid hb
    clear hb f0 f1 d0 d1 HM HG
    by_cases hlt : k < n
    · obtain ⟨ab, ao, rfl, hcs⟩ := HX.out.2 (by omega)
      obtain ⟨ab2, ao2, rfl, hcs2⟩ := HY.out.2 (by omega)
      obtain ⟨v1, e1', hv1⟩ := hcs k hlt
      have HCS2 := Lib.hid hcs2
      have e1 := HB.out.cell e1'
      have c1 := HB.out.cell HC.out.2
      have HV1 := Lib.hid hv1
      clear hcs hcs2 e1' hv1
      obtain ⟨p1, hp1⟩ : ∃ b, v1 = .pointer (some ⟨b, 0, none⟩) := by obtain ⟨b, _, _, _, e, _⟩ := HV1.out; exact ⟨b, e⟩
      subst hp1
      go_wp2_with fail
      obtain ⟨wo, hwo⟩ : ∃ wo : World, wo = wr := ⟨_, rfl⟩
      subst hwo
      go_loopg [42, 8, 9, 10] (n + 1) (fun g2 i2 fd _ _ wi => ∃ q : Nat, q ≤ k ∧ g2 = n + 1 - q ∧ i2 = .int .i64 q ∧ fd = .bool false ∧ wi = wo)
      case atStart => exact ⟨0, by omega, by omega, rfl, rfl, rfl⟩
      case round =>
        obtain ⟨q, hq, hg2, rfl, rfl, hwi⟩ := hrel
        subst hwi
        obtain ⟨v2, e2', hv2⟩ := HCS2.out q (by omega)
        have e2 := HB.out.cell e2'
        have HV2 := Lib.hid hv2
        have m1 := flags_at HF.out (show q < n by omega)
        have fz := flags_fz (q := q) HF.out
        clear e2' hv2
        obtain ⟨p2, hp2⟩ : ∃ b, v2 = .pointer (some ⟨b, 0, none⟩) := by obtain ⟨b, _, _, _, e, _⟩ := HV2.out; exact ⟨b, e⟩
        subst hp2
        by_cases hqk : q < k
        · rw [decide_eq_true hqk] at m1
          go_wp2_with fail
          go_roundg (n - q)
          case measure => omega
          case rel => exact ⟨q + 1, by omega, by omega, by go_num, rfl, rfl⟩
        · rw [decide_eq_false hqk] at m1
          obtain rfl : q = k := by omega
          have z1 := Lib.hid (HS.out.1 _ (at_mem (l := x) (k := q) (by rw [HX.out.1]; exact hlt)))
          have z2 := Lib.hid (HS.out.2 _ (at_mem (l := y) (k := q) (by rw [HY.out.1]; exact hlt)))
          have hcall := rdnEqual_any _ _ (Dn.at' x q) (Dn.at' y q) _ (HV1.out.grew HB.out) (HV2.out.grew HB.out) z1.out z2.out
          rw [H1.out q hlt] at hcall
          have HL := Lib.hid hcall
          clear hcall
          go_wp2_with fail
          refine HL.out.mono ?_
          rintro e w3 ⟨rfl, hb3⟩
          have HM3 := Lib.hid ((hb3.block M (Array.getElem?_eq_some_iff.1 HF.out).1).trans HF.out)
          have HB3 := Lib.hid (HB.out.then hb3)
          have m3 := flags_at HM3.out (show q < n by omega)
          have fz3 := flags_fz (q := q) HM3.out
          clear hb3 m1 fz
          go_wp2_with fail
          go_roundg (n - q)
          case measure => omega
          case rel =>
            refine ⟨q + 1, by omega, by omega, by go_num, HB3.out.setCell (by simpa using hMw) _, Lib.hid ?_⟩
            have := K.heap_setCell_at HM3.out (i := q) (Value.bool true)
            rwa [flags_set] at this
    · go_wp2_with fail
      go_ret
      exact ⟨rfl, HB.out⟩
end Go.Proofs.YtnjjhklefamaoaaDoor
