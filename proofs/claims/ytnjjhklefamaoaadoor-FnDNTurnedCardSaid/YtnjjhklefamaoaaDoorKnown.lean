/-
  dnHas, RDNKnown, DNSetKnown, names: what is known where they answer true.
-/
import Derived.Test.YtnjjhklefamaoaaDoorSame
namespace Go.Proofs.YtnjjhklefamaoaaDoor
open Go.RowKit
open Dn (Attr Name)

def Small (l : List Attr) : Prop := ∀ x ∈ l, x.1.size ≤ 12 ∧ x.2.size ≤ 20
theorem atA_mem {l : List Attr} {k : Nat} (h : k < l.length) : atA l k ∈ l := by
  unfold atA
  rw [List.getD, List.getElem?_eq_getElem h]
  exact List.getElem_mem _
theorem has_true {l : List Attr} {a : Attr} {k : Nat} (h : k < l.length) (e : Dn.same (atA l k) a = true) : Dn.has l a = true := by
  rw [Dn.has, List.any_eq_true]
  exact ⟨_, atA_mem h, e⟩
theorem has_false {l : List Attr} {a : Attr} (e : ∀ k, k < l.length → Dn.same (atA l k) a = false) : Dn.has l a = false := by
  cases h : Dn.has l a with
  | false => rfl
  | true =>
    rw [Dn.has, List.any_eq_true] at h
    obtain ⟨x, hx, hs⟩ := h
    obtain ⟨k, hk, rfl⟩ := List.getElem_of_mem hx
    have := e k hk
    rw [atA, List.getD, List.getElem?_eq_getElem hk] at this
    simp only [Option.getD_some] at this
    rw [hs] at this; cases this
theorem NoneTo.snoc {p : Nat → Bool} {k : Nat} (h : ∀ j, j < k → p j = false) (e : p k = false) : ∀ j, j < k + 1 → p j = false := by
  intro j hj
  rcases Nat.lt_or_ge j k with h1 | h1
  · exact h j h1
  · have : j = k := by omega
    subst this; exact e

set_option maxHeartbeats 1000000 in
set_option maxRecDepth 100000 in
theorem dnHas_any (A : Option Addr) (n cap : Nat) (l : List Attr) (a : Attr) (w : World) (hA : AttrsAt w A n l) (hS : Small l) (ha : a.1.size ≤ 12) (hc : n ≤ 1000000) :
    Calls Tryd.prog 42 #[.slice A n cap, .agg #[.string a.1, .string a.2]] w (BoolIs (Dn.has l a) w) := by
  have hb0 : Below w.heap.size w (w.alloc (.cells #[.string a.1, .string a.2] 32)) := (Below.refl _ w).alloc (Nat.le_refl _) _
  have hx0 : (w.alloc (.cells #[.string a.1, .string a.2] 32)).heap[w.heap.size]? = some (.cells #[.string a.1, .string a.2] 32 (0, 0)) := K.heap_alloc_at _ _
  have HA := Lib.hid hA
  have HS := Lib.hid hS
  have HB0 := Lib.hid hb0
  have HX0 := Lib.hid hx0
  clear hA hS hb0 hx0
  go_enter Tryd.func42, Tryd.ntmps42
  go_wp2_with fail
  go_loopw [9] (fun i wr => ∃ k : Nat, k ≤ n ∧ i = .int .i64 k ∧ K.Grew w wr ∧ wr.heap[w.heap.size]? = some (.cells #[.string a.1, .string a.2] 32 (0, 0)) ∧ ∀ j, j < k → Dn.same (atA l j) a = false) (fun i _ => n - (intOf i).toNat)
  case atStart => exact ⟨0, by omega, rfl, HB0.out, HX0.out, fun j hj => by omega⟩
  case round =>
    obtain ⟨k, hk, rfl, hb, hx, hno⟩ := hrel
    have HB := Lib.hid hb
    have HX := Lib.hid hx
    have HN := Lib.hid hno
    have d0 : wr.cell? ⟨w.heap.size, 0, none⟩ = some (.string a.1) := by simp only [World.cell?, hx]; rfl
    have d1 : wr.cell? ⟨w.heap.size, 1, none⟩ = some (.string a.2) := by simp only [World.cell?, hx]; rfl
    have hlt0 : w.heap.size < wr.heap.size := (Array.getElem?_eq_some_iff.1 hx).1
    clear hb hx hno
    by_cases hlt : k < n
    · obtain ⟨ab, ao, rfl, hab, hcs⟩ := HA.out.2 (by omega)
      have c0 := HB.out.cell (hcs k hlt).1
      have c1 := HB.out.cell (hcs k hlt).2
      have hz := (HS.out _ (atA_mem (l := l) (k := k) (by rw [HA.out.1]; exact hlt))).1
      clear hcs
      go_wp2_with fail
      refine (dnSame_any (atA l k) a _ (by omega) (by omega)).mono ?_
      rintro e w2 ⟨rfl, hb2⟩
      have hb3 : K.Grew wr w2 := ((Below.refl _ wr).alloc (Nat.le_refl _) _).trans (hb2.mono (by simp))
      have HB3 := Lib.hid hb3
      clear hb2 hb3
      cases hs : Dn.same (atA l k) a with
      | false =>
        have HSm := Lib.hid hs
        clear hs
        go_wp2_with fail
        go_roundw
        case rel => exact ⟨k + 1, by omega, by go_num, HB.out.then HB3.out, (HB3.out.block _ hlt0).trans HX.out, NoneTo.snoc HN.out HSm.out⟩
        case measure => simp [intOf]; omega
      | true =>
        have hq : Dn.has l a = true := has_true (by rw [HA.out.1]; exact hlt) hs
        have HQ := Lib.hid hq
        clear hs hq
        go_wp2_with fail
        go_ret
        exact ⟨ret_bool HQ.out.symm, HB.out.then HB3.out⟩
    · have hq : Dn.has l a = false := has_false fun j hj => HN.out j (by rw [HA.out.1] at hj; omega)
      have HQ := Lib.hid hq
      clear hq
      go_wp2_with fail
      go_ret
      exact ⟨ret_bool HQ.out.symm, HB.out⟩
theorem once_of {l : List Attr} (h : ∀ j, j < l.length → Dn.has (l.take j) (atA l j) = false) : Dn.Once l := by
  rw [Dn.Once, List.pairwise_iff_getElem]
  intro i j hi hj hij
  have := h j hj
  rw [Dn.has, List.any_eq_false] at this
  have h2 := this l[i] (List.mem_take_iff_getElem.2 ⟨i, by omega, rfl⟩)
  rw [atA, List.getD, List.getElem?_eq_getElem hj] at h2
  simpa using h2
theorem AttrsAt.take {w : World} {A : Option Addr} {n k : Nat} {l : List Attr} (h : AttrsAt w A n l) (hk : k ≤ n) : AttrsAt w A k (l.take k) := by
  refine ⟨by rw [List.length_take, h.1]; omega, fun h0 => ?_⟩
  obtain ⟨ab, ao, e, hlt, hc⟩ := h.2 (by omega)
  refine ⟨ab, ao, e, hlt, fun j hj => ?_⟩
  have : atA (l.take k) j = atA l j := by simp [atA, List.getD, hj]
  rw [this]
  exact hc j (by omega)
theorem Small.take {l : List Attr} (h : Small l) (k : Nat) : Small (l.take k) := fun x hx => h x (List.mem_of_mem_take hx)

theorem AttrsAt.grew2 {w W w' : World} {A : Option Addr} {n : Nat} {l : List Attr} (h : AttrsAt w A n l) (h1 : Below w.heap.size w W) (h2 : K.Grew W w') : AttrsAt w' A n l := h.below (K.Grew.then h1 h2)

set_option maxHeartbeats 2000000 in
set_option maxRecDepth 100000 in
theorem rdnKnown_any (A : Option Addr) (n cap : Nat) (l : List Attr) (w : World) (hA : AttrsAt w A n l) (hS : Small l) (hc : n ≤ 1000000) (hnc : n ≤ cap) :
    Calls Tryd.prog 39 #[.slice A n cap] w (BoolIf (Dn.Once l) w) := by
  have HA := Lib.hid hA
  have HS := Lib.hid hS
  clear hA hS
  obtain ⟨Q, hQ⟩ : ∃ Q, Q = Dn.Once l := ⟨_, rfl⟩
  rw [← hQ]
  have HQ := Lib.hid hQ
  clear hQ
  go_enter Tryd.func39, Tryd.ntmps39
  go_wp2_with fail
  go_loopw [7] (fun i wr => ∃ k : Nat, k ≤ n ∧ i = .int .i64 k ∧ K.Grew w wr ∧ Hid (∀ j, j < k → Dn.has (l.take j) (atA l j) = false)) (fun i _ => n - (intOf i).toNat)
  case atStart => exact ⟨0, by omega, rfl, K.Grew.refl _, Lib.hid fun j hj => by omega⟩
  case round =>
    obtain ⟨k, hk, rfl, hb, HN⟩ := hrel
    have HB := Lib.hid hb
    clear hb
    by_cases hlt : k < n
    · obtain ⟨ab, ao, rfl, hab, hcs⟩ := HA.out.2 (by omega)
      have c0 := HB.out.cell (hcs k hlt).1
      have c1 := HB.out.cell (hcs k hlt).2
      have hz := (HS.out _ (atA_mem (l := l) (k := k) (by rw [HA.out.1]; exact hlt))).1
      have d0 : (wr.alloc (.cells #[.string (atA l k).1, .string (atA l k).2] 32)).cell? ⟨wr.heap.size, 0, none⟩ = some (.string (atA l k).1) := by go_simp
      have d1 : (wr.alloc (.cells #[.string (atA l k).1, .string (atA l k).2] 32)).cell? ⟨wr.heap.size, 1, none⟩ = some (.string (atA l k).2) := by go_simp
      have hw : K.Grew wr (wr.alloc (.cells #[.string (atA l k).1, .string (atA l k).2] 32)) := (Below.refl _ wr).alloc (Nat.le_refl _) _
      have HW := Lib.hid (HB.out.then hw)
      have b1 : (0 : Int) ≤ (k : Int) := by omega
      have b2 : (k : Int) ≤ (cap : Int) := by omega
      clear hcs hw
      have HK := Lib.hid (show AttrsAt w (some ⟨ab, ao, none⟩) k (l.take k) from HA.out.take (Nat.le_of_lt hlt))
      have HNS := Lib.hid (fun h : Dn.has (l.take k) (atA l k) = false => NoneTo.snoc (p := fun j => Dn.has (l.take j) (atA l j)) HN.out h)
      clear HN
      generalize atA l k = a at *
      obtain ⟨p, q⟩ := a
      simp only at c0 c1 d0 d1 hz
      go_wp2_with fail
      generalize wr.alloc (.cells #[.string p, .string q] 32) = W at *
      have hld : ∀ w', K.Grew W w' → (Instr.loadAt 32 (.pointer (some ⟨wr.heap.size, 0, none⟩))).run Tryd.prog w' = .ok (.agg #[.string p, .string q]) w' := fun w' hw' => by
        have e0 := hw'.cell d0
        have e1 := hw'.cell d1
        go_simp
      cases hh : Dn.has (l.take k) (p, q) with
      | true =>
        have HH := Lib.hid hh
        clear hh
        have h42 : ∀ w', K.Grew W w' → Calls Tryd.prog 42 #[.slice (some ⟨ab, ao, none⟩) k cap, .agg #[.string p, .string q]] w' (BoolIs true w') := fun w' hw' => by
          have := dnHas_any (some ⟨ab, ao, none⟩) k cap (l.take k) (p, q) w' (HK.out.grew2 HW.out hw') (HS.out.take k) hz (by omega)
          rw [HH.out] at this; exact this
        refine K.wp_region_grew (by kernel_rfl) (by kernel_rfl) ?_
        repeat (first
          | go_big_quiet_skip
          | (go_big_quiet_want; go_big_quiet_op; go_big_quiet_on)
          | (go_big_quiet_want; go_big_quiet_op; refine ⟨_, fun _ _ => rfl, ?_⟩; go_big_quiet_on)
          | (go_big_quiet_want; refine K.quiet_cell (v := ?_) ?_ _ _ rfl rfl ?_ ?_
             rotate_left
             · assumption
             · (intro w hw; go_simp)
             simp only [Act.put, List.setIfInBounds_toArray, List.set_cons_zero, List.set_cons_succ]
             go_big_quiet_on)
          | (go_big_quiet_want; refine K.quiet_load _ _ rfl _ rfl ?_ ?_ ?_
             rotate_left
             · assumption
             simp only [Act.put, List.setIfInBounds_toArray, List.set_cons_zero, List.set_cons_succ]
             go_big_quiet_on)
          | (go_big_quiet_want; go_big_quiet_op; apply Exists.intro
             refine ⟨fun w hw => ?_, ?_⟩
             · first | with_reducible exact quiet_of_bool hw (h42 _ hw)
             go_big_quiet_on))
        refine wpQuiet_nil ?_
        intro w' hw'
        go_wp2_with fail
        go_ret
        exact BoolIf.mk _ (K.Grew.then HW.out hw') fun h => by cases h
      | false =>
        have HH := Lib.hid hh
        clear hh
        cases hcp : confB p with
        | false =>
          have HP := Lib.hid hcp
          clear hcp
          have h42 : ∀ w', K.Grew W w' → Calls Tryd.prog 42 #[.slice (some ⟨ab, ao, none⟩) k cap, .agg #[.string p, .string q]] w' (BoolIs false w') := fun w' hw' => by
            have := dnHas_any (some ⟨ab, ao, none⟩) k cap (l.take k) (p, q) w' (HK.out.grew2 HW.out hw') (HS.out.take k) hz (by omega)
            rw [HH.out] at this; exact this
          have h46 : ∀ w', K.Grew W w' → Calls Tryd.prog 46 #[.string p, .string ⟨#[]⟩] w' (BoolIs false w') := fun w' _ => by
            have := confPlain_any p w' (by omega)
            rw [HP.out] at this
            exact this.mono fun _ _ ⟨h1, h2⟩ => ⟨h1, h2 ▸ Below.refl _ _⟩
          refine K.wp_region_grew (by kernel_rfl) (by kernel_rfl) ?_
          repeat (first
            | go_big_quiet_skip
            | (go_big_quiet_want; go_big_quiet_op; go_big_quiet_on)
            | (go_big_quiet_want; go_big_quiet_op; refine ⟨_, fun _ _ => rfl, ?_⟩; go_big_quiet_on)
            | (go_big_quiet_want; refine K.quiet_cell (v := ?_) ?_ _ _ rfl rfl ?_ ?_
               rotate_left
               · assumption
               · (intro w hw; go_simp)
               simp only [Act.put, List.setIfInBounds_toArray, List.set_cons_zero, List.set_cons_succ]
               go_big_quiet_on)
            | (go_big_quiet_want; refine K.quiet_load _ _ rfl _ rfl ?_ ?_ ?_
               rotate_left
               · assumption
               simp only [Act.put, List.setIfInBounds_toArray, List.set_cons_zero, List.set_cons_succ]
               go_big_quiet_on)
            | (go_big_quiet_want; go_big_quiet_op; apply Exists.intro
               refine ⟨fun w hw => ?_, ?_⟩
               · first | with_reducible exact quiet_of_bool hw (h42 _ hw) | with_reducible exact quiet_of_bool hw (h46 _ hw)
               go_big_quiet_on))
          refine wpQuiet_nil ?_
          intro w' hw'
          go_wp2_with fail
          go_ret
          exact BoolIf.mk _ (K.Grew.then HW.out hw') fun h => by cases h
        | true =>
          have HP := Lib.hid hcp
          clear hcp
          have h42 : ∀ w', K.Grew W w' → Calls Tryd.prog 42 #[.slice (some ⟨ab, ao, none⟩) k cap, .agg #[.string p, .string q]] w' (BoolIs false w') := fun w' hw' => by
            have := dnHas_any (some ⟨ab, ao, none⟩) k cap (l.take k) (p, q) w' (HK.out.grew2 HW.out hw') (HS.out.take k) hz (by omega)
            rw [HH.out] at this; exact this
          have h46 : ∀ w', K.Grew W w' → Calls Tryd.prog 46 #[.string p, .string ⟨#[]⟩] w' (BoolIs true w') := fun w' _ => by
            have := confPlain_any p w' (by omega)
            rw [HP.out] at this
            exact this.mono fun _ _ ⟨h1, h2⟩ => ⟨h1, h2 ▸ Below.refl _ _⟩
          refine K.wp_region_grew (by kernel_rfl) (by kernel_rfl) ?_
          repeat (first
            | go_big_quiet_skip
            | (go_big_quiet_want; go_big_quiet_op; go_big_quiet_on)
            | (go_big_quiet_want; go_big_quiet_op; refine ⟨_, fun _ _ => rfl, ?_⟩; go_big_quiet_on)
            | (go_big_quiet_want; refine K.quiet_cell (v := ?_) ?_ _ _ rfl rfl ?_ ?_
               rotate_left
               · assumption
               · (intro w hw; go_simp)
               simp only [Act.put, List.setIfInBounds_toArray, List.set_cons_zero, List.set_cons_succ]
               go_big_quiet_on)
            | (go_big_quiet_want; refine K.quiet_load _ _ rfl _ rfl ?_ ?_ ?_
               rotate_left
               · assumption
               simp only [Act.put, List.setIfInBounds_toArray, List.set_cons_zero, List.set_cons_succ]
               go_big_quiet_on)
            | (go_big_quiet_want; go_big_quiet_op; apply Exists.intro
               refine ⟨fun w hw => ?_, ?_⟩
               · first | with_reducible exact quiet_of_bool hw (h42 _ hw) | with_reducible exact quiet_of_bool hw (h46 _ hw)
               go_big_quiet_on))
          refine wpQuiet_nil ?_
          intro w' hw'
          have HW' := Lib.hid hw'
          clear hw'
          go_wp2_with fail
          go_roundw
          case rel => exact ⟨k + 1, by omega, by go_num, K.Grew.then HW.out HW'.out, Lib.hid (HNS.out HH.out)⟩
          case measure => simp [intOf]; omega
    · have hq : Q := by
        rw [HQ.out]
        exact once_of fun j hj => HN.out j (by have := HA.out.1; omega)
      go_wp2_with fail
      go_ret
      exact BoolIf.mk _ HB.out fun _ => hq

/-- few parts, few and short attributes in each -/
def Few (l : Name) : Prop := ∀ x ∈ l, 1 ≤ x.length ∧ x.length ≤ 4 ∧ Small x
def Named (l : Name) : Prop := l.length ≤ 6 ∧ Few l ∧ Dn.KnownAll l
theorem at_mem {l : Name} {k : Nat} (h : k < l.length) : Dn.at' l k ∈ l := by
  unfold Dn.at'
  rw [List.getD, List.getElem?_eq_getElem h]
  exact List.getElem_mem _
theorem all_at {P : List Attr → Prop} {l : Name} (h : ∀ j, j < l.length → P (Dn.at' l j)) : ∀ x ∈ l, P x := by
  intro x hx
  obtain ⟨k, hk, rfl⟩ := List.getElem_of_mem hx
  have := h k hk
  rwa [Dn.at', List.getD, List.getElem?_eq_getElem hk] at this
theorem AllTo.snoc {P : Nat → Prop} {k : Nat} (h : ∀ j, j < k → P j) (e : P k) : ∀ j, j < k + 1 → P j := by
  intro j hj
  rcases Nat.lt_or_ge j k with h1 | h1
  · exact h j h1
  · have : j = k := by omega
    subst this; exact e

set_option maxHeartbeats 1000000 in
set_option maxRecDepth 100000 in
theorem setKnown_any (v : Value) (l : Name) (w : World) (hN : NamesV w v l) (hF : Few l) (hl : l.length ≤ 6) : Calls Tryd.prog 22 #[v] w (BoolIf (Dn.KnownAll l) w) := by
  obtain ⟨A, n, cap, rfl, hnc, hc, hA⟩ := hN
  have hn6 : n ≤ 6 := by rw [← hA.1]; exact hl
  have HA := Lib.hid hA
  have HF := Lib.hid hF
  clear hA hnc hc hF hl
  obtain ⟨Q, hQ⟩ : ∃ Q, Q = Dn.KnownAll l := ⟨_, rfl⟩
  rw [← hQ]
  have HQ := Lib.hid hQ
  clear hQ
  go_enter Tryd.func22, Tryd.ntmps22
  go_wp2_with fail
  go_loopw [7] (fun i wr => ∃ k : Nat, k ≤ n ∧ i = .int .i64 k ∧ K.Grew w wr ∧ Hid (∀ j, j < k → Dn.Once (Dn.at' l j))) (fun i _ => n - (intOf i).toNat)
  case atStart => exact ⟨0, by omega, rfl, K.Grew.refl _, Lib.hid fun j hj => by omega⟩
  case round =>
    obtain ⟨k, hk, rfl, hb, HN⟩ := hrel
    have HB := Lib.hid hb
    clear hb
    by_cases hlt : k < n
    · obtain ⟨ab, ao, rfl, hab, hcs⟩ := HA.out.2 (by omega)
      obtain ⟨v, c0', hv⟩ := hcs k hlt
      have c0 := HB.out.cell c0'
      obtain ⟨h1, h4, hs⟩ := HF.out _ (at_mem (l := l) (k := k) (by rw [HA.out.1]; exact hlt))
      obtain ⟨A2, n2, cap2, rfl, hnc2, _, hA2, _⟩ := hv.below HB.out
      have hn2 : n2 ≤ 4 := by rw [← hA2.1]; exact h4
      have HA2 := Lib.hid hA2
      have HS := Lib.hid hs
      clear hcs hv hA2 hs c0' h1 h4
      go_wp2_with fail
      refine (rdnKnown_any A2 n2 cap2 _ _ HA2.out HS.out (by omega) hnc2).mono ?_
      rintro e w2 ⟨b, rfl, hb2, hon⟩
      have HO := Lib.hid hon
      have HB2 := Lib.hid (HB.out.then hb2)
      clear hb2 hon
      cases b with
      | false =>
        go_wp2_with fail
        go_ret
        exact BoolIf.mk _ HB2.out fun h => by cases h
      | true =>
        go_wp2_with fail
        go_roundw
        case rel => exact ⟨k + 1, by omega, by go_num, HB2.out, Lib.hid (AllTo.snoc HN.out (HO.out (by trivial)))⟩
        case measure => simp [intOf]; omega
    · have hq : Q := by
        rw [HQ.out]
        exact all_at fun j hj => HN.out j (by have := HA.out.1; omega)
      go_wp2_with fail
      go_ret
      exact BoolIf.mk _ HB.out fun _ => hq

set_option maxHeartbeats 4000000 in
set_option maxRecDepth 100000 in
theorem names_any (v : Value) (l : Name) (w : World) (hN : NamesV w v l) : Calls Tryd.prog 11 #[v] w (BoolIf (Named l) w) := by
  have HV := Lib.hid hN
  obtain ⟨A, n, cap, rfl, hnc, hc, hA⟩ := hN
  have hn6 : n ≤ maxLen := by omega
  unfold maxLen at hn6
  have HA := Lib.hid hA
  clear hA hnc hc
  obtain ⟨Q, hQ⟩ : ∃ Q, Q = Named l := ⟨_, rfl⟩
  rw [← hQ]
  have HQ := Lib.hid hQ
  clear hQ
  go_enter Tryd.func11, Tryd.ntmps11
  go_wp2_with fail
  go_loopg [3, 4] (n + 1) (fun gk i _ wr => ∃ k : Nat, k ≤ n ∧ gk = n + 1 - k ∧ i = .int .i64 k ∧ wr = w ∧ Hid (∀ j, j < k → 1 ≤ (Dn.at' l j).length ∧ (Dn.at' l j).length ≤ 4 ∧ Small (Dn.at' l j)))
  case atStart => exact ⟨0, by omega, by omega, rfl, rfl, Lib.hid fun j hj => by omega⟩
  case round =>
    obtain ⟨k, hk, hg, rfl, hwr, HN⟩ := hrel
    subst hwr
    by_cases hlt : k < n
    · obtain ⟨ab, ao, rfl, hab, hcs⟩ := HA.out.2 (by omega)
      obtain ⟨v, c0, hv⟩ := hcs k hlt
      obtain ⟨A2, n2, cap2, rfl, hnc2, hm2, hA2, hF2⟩ := hv
      have HA2 := Lib.hid hA2
      have HF2 := Lib.hid hF2
      have HSN := Lib.hid (fun h => AllTo.snoc (P := fun j => 1 ≤ (Dn.at' l j).length ∧ (Dn.at' l j).length ≤ 4 ∧ Small (Dn.at' l j)) HN.out h)
      clear hcs hA2 hF2 HN
      generalize Dn.at' l k = x at *
      by_cases h1 : 1 ≤ n2
      · by_cases h4 : n2 ≤ 4
        · go_wp2_with fail
          obtain ⟨wo, hwo⟩ : ∃ wo : World, wo = wr := ⟨_, rfl⟩
          subst hwo
          go_loopg [4] (n2 + 1) (fun g2 i2 wi => ∃ q : Nat, q ≤ n2 ∧ g2 = n2 + 1 - q ∧ i2 = .int .i64 q ∧ wi = wo ∧ Hid (∀ j, j < q → (atA x j).1.size ≤ 12 ∧ (atA x j).2.size ≤ 20))
          case atStart => exact ⟨0, by omega, by omega, rfl, rfl, Lib.hid fun j hj => by omega⟩
          case round =>
            obtain ⟨q, hq, hg2, rfl, hwi, HM⟩ := hrel
            subst hwi
            by_cases hq2 : q < n2
            · obtain ⟨ab2, ao2, rfl, hab2, hcs2⟩ := HA2.out.2 (by omega)
              have c1 := (hcs2 q hq2).1
              have c2 := (hcs2 q hq2).2
              have HSM := Lib.hid (fun h => AllTo.snoc (P := fun j => (atA x j).1.size ≤ 12 ∧ (atA x j).2.size ≤ 20) HM.out h)
              clear hcs2 HM
              generalize atA x q = a at *
              obtain ⟨s, t⟩ := a
              simp only at c1 c2
              by_cases hs12 : s.size ≤ 12
              · by_cases ht20 : t.size ≤ 20
                · go_wp2_with fail
                  refine (ascii_any s _ (by omega)).mono ?_
                  rintro e w' ⟨b, rfl, rfl⟩
                  cases b with
                  | false =>
                    go_wp2_with fail
                    go_ret
                    exact BoolIf.mk _ (Below.refl _ _) fun h => by cases h
                  | true =>
                    go_wp2_with fail
                    go_roundg (n2 - q)
                    case measure => omega
                    case rel => exact ⟨q + 1, by omega, by omega, by go_num, rfl, Lib.hid (HSM.out ⟨hs12, ht20⟩)⟩
                · go_wp2_with fail
                  go_ret
                  exact BoolIf.mk _ (Below.refl _ _) fun h => by cases h
              · go_wp2_with fail
                go_ret
                exact BoolIf.mk _ (Below.refl _ _) fun h => by cases h
            · go_wp2_with fail
              go_roundg (n - k)
              case measure => omega
              case rel =>
                refine ⟨k + 1, by omega, by omega, by go_num, rfl, Lib.hid (HSN.out ⟨?_, ?_, fun y hy => ?_⟩)⟩
                · rw [HA2.out.1]; exact h1
                · rw [HA2.out.1]; exact h4
                · obtain ⟨j, hj, rfl⟩ := List.getElem_of_mem hy
                  have := HM.out j (by have := HA2.out.1; omega)
                  rwa [atA, List.getD, List.getElem?_eq_getElem hj] at this
        · go_wp2_with fail
          go_ret
          exact BoolIf.mk _ (Below.refl _ _) fun h => by cases h
      · go_wp2_with fail
        go_ret
        exact BoolIf.mk _ (Below.refl _ _) fun h => by cases h
    · have hk' : k = n := by omega
      have HF : Few l := all_at fun j hj => HN.out j (by have := HA.out.1; omega)
      have HFH := Lib.hid HF
      clear HF
      by_cases hn : n ≤ 6
      · go_wp2_with fail
        refine (setKnown_any _ l _ HV.out HFH.out (by rw [HA.out.1]; exact hn)).mono ?_
        rintro e w' ⟨b, rfl, hb, hon⟩
        have HO := Lib.hid hon
        have HB := Lib.hid hb
        clear hon hb
        go_wp2_with fail
        go_ret
        exact BoolIf.mk _ HB.out fun h => by rw [HQ.out]; exact ⟨by rw [HA.out.1]; exact hn, HFH.out, HO.out h⟩
      · go_wp2_with fail
        go_ret
        exact BoolIf.mk _ (Below.refl _ _) fun h => by cases h
end Go.Proofs.YtnjjhklefamaoaaDoor
