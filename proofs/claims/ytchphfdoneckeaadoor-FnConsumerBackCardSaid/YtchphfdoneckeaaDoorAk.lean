/-
  awakeConsumer; what a script's answer reads as.
-/
import Derived.Test.YtchphfdoneckeaaDoorCo
namespace Go.Proofs.YtchphfdoneckeaaDoor
open Go.RowKit
open Cs (Wt Kp)
open K (Yes)

theorem own_slice {w : World} {base e sz n : Nat} {v : Value} {xs : List Value} (h : w.ownsRow base e sz v n xs) (hn : 0 < n) : ∃ g cap, v = .slice (some ⟨g, 0, none⟩) n cap ∧ n ≤ cap ∧ base ≤ g ∧ g < w.heap.size ∧ ∀ j u, xs[j]? = some u → w.cell? ⟨g, j, none⟩ = some u := by
  rcases h.2 with ⟨_, h2⟩ | ⟨g, cap, cur, rfl, h1, h2, h3, h4⟩
  · omega
  · refine ⟨g, cap, rfl, h3, h1, lt_of_heap h2, fun j u hu => ?_⟩
    have := h.cells (g := g) rfl j u hu
    rwa [Addr.add_lit, Nat.zero_add] at this
theorem kd_get (kd : Nat → Int) (n j : Nat) (hj : j < n) : (kdCells kd n)[j]? = some (.int .i64 (kd j)) := by
  unfold kdCells
  rw [List.getElem?_map, List.getElem?_range hj]; rfl
theorem st_get (kk : Nat → Kp) (Af : Nat → Option Addr) (cf : Nat → Nat) : ∀ (n j r : Nat), j < n → r < 6 → (stCells kk Af cf n)[j * 6 + r]? = (keepCells (kk (j + 1)) (Af j) (cf j))[r]? := by
  intro n
  have hlen : ∀ n, (stCells kk Af cf n).length = n * 6 := by
    intro n
    induction n with
    | zero => rfl
    | succ n ih =>
      unfold stCells at ih ⊢
      rw [List.range_succ, List.flatMap_append, List.length_append, ih]
      simp [keepCells]; omega
  induction n with
  | zero => intro j r hj; omega
  | succ n ih =>
    intro j r hj hr
    have e : stCells kk Af cf (n + 1) = stCells kk Af cf n ++ keepCells (kk (n + 1)) (Af n) (cf n) := by
      unfold stCells
      rw [List.range_succ, List.flatMap_append]
      simp
    rw [e]
    by_cases hjn : j < n
    · rw [List.getElem?_append_left (by rw [hlen]; omega)]
      exact ih j r hjn hr
    · obtain rfl : j = n := by omega
      rw [List.getElem?_append_right (by rw [hlen]; omega), hlen]
      congr 1
      omega
/-- the first delivery of all, of awakeConsumer -/
def kA (i : Nat) : Kp := if i = 0 then Cs.k0 else Cs.dlv Cs.k0 1 4 1000000000
theorem good_k0 : Good Cs.k0 := ⟨⟨Nat.le_refl _, Nat.le_refl _, List.Pairwise.nil, fun x hx => by cases hx⟩, by decide, by decide, by decide⟩
set_option maxRecDepth 100000 in
theorem awake_any (te : TypeId) (ve : Value) (w : World) (hE : w.cell? ⟨1, 0, none⟩ = some (.iface te ve)) : Calls Tryd.prog 8 #[] w (Yes w) := by
  have hb0 : Below w.heap.size w (w.alloc (.cells (dlvRow 1 4 1000000000) 37)) := (Below.refl _ w).alloc (Nat.le_refl _) _
  have hd : DeedsAt (w.alloc (.cells (dlvRow 1 4 1000000000) 37)) (some ⟨w.heap.size, 0, none⟩) 1 (fun _ => .dlv 1 4 1000000000) := fun _ => ⟨w.heap.size, 0, rfl, by simp, fun i hi j v hv => by
    obtain rfl : i = 0 := by omega
    simp only [Nat.zero_mul, Nat.zero_add]
    exact cell_of (K.heap_alloc_at _ _) hv⟩
  have h9 := consumer_any (some ⟨w.heap.size, 0, none⟩) 1 1 (fun _ => .dlv 1 4 1000000000) kA (fun _ => 0) te ve _ hd (by omega) rfl (fun i hi => by
      unfold kA
      split
      · exact good_k0
      · exact ⟨Cs.dlv_sound good_k0.sound _ (by decide) (by decide), by decide, by decide, by decide⟩)
    (fun i hi => by
      obtain rfl : i = 0 := by omega
      exact ⟨by decide, by decide, by decide, rfl, rfl⟩) (past hE _)
  have HB0 := Lib.hid hb0
  clear hE hb0 hd
  unfold dlvRow at h9 HB0
  go_enter Tryd.func8, Tryd.ntmps8
  go_wp2_with fail
  refine h9.mono ?_
  rintro e w1 ⟨base, kv, sv, Af, cf, rfl, hk, hs, hW, hb, hbase⟩
  obtain ⟨g, c1, rfl, hc1, _, _, hkc⟩ := own_slice hk (by omega)
  obtain ⟨g2, c2, rfl, hc2, _, _, hsc⟩ := own_slice hs (by omega)
  have k0 : w1.cell? ⟨g, 0, none⟩ = some (.int .i64 0) := hkc 0 _ (kd_get (fun _ => 0) 1 0 (by omega))
  have s1 : w1.cell? ⟨g2, 1, none⟩ = some (.int .u64 4) := hsc (0 * 6 + 1) _ (st_get kA Af cf 1 0 1 (by omega) (by omega))
  have HB := Lib.hid (HB0.out.trans (hb.mono (by simp)))
  clear hk hs hW hb hbase hkc hsc h9
  go_wp2_with fail
  go_ret
  exact ⟨rfl, HB.out⟩
end Go.Proofs.YtchphfdoneckeaaDoor
