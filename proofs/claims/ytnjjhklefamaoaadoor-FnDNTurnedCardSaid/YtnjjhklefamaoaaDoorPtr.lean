/-
  Names behind pointers: what the package's structures read as; AttributeTypeAndValue.Equal, RelativeDN.hasAllAttributes, RelativeDN.Equal.
-/
import Derived.Test.YtnjjhklefamaoaaDoorFold
namespace Go.Proofs.YtnjjhklefamaoaaDoor
open Go.RowKit
open Dn (Attr Name)

def PAttr (w : World) (v : Value) (a : Attr) : Prop := ∃ b, v = .pointer (some ⟨b, 0, none⟩) ∧ w.cell? ⟨b, 0, none⟩ = some (.string a.1) ∧ w.cell? ⟨b, 1, none⟩ = some (.string a.2)
def PAttrs (w : World) (A : Option Addr) (n : Nat) (l : List Attr) : Prop :=
  l.length = n ∧ (0 < n → ∃ ab ao, A = some ⟨ab, ao, none⟩ ∧ ∀ j, j < n → ∃ v, w.cell? ⟨ab, ao + j, none⟩ = some v ∧ PAttr w v (atA l j))
def PRdn (w : World) (v : Value) (l : List Attr) : Prop := ∃ b A n cap, v = .pointer (some ⟨b, 0, none⟩) ∧ w.cell? ⟨b, 0, none⟩ = some (.slice A n cap) ∧ n ≤ 1000 ∧ PAttrs w A n l
def PRdns (w : World) (A : Option Addr) (n : Nat) (l : Name) : Prop :=
  l.length = n ∧ (0 < n → ∃ ab ao, A = some ⟨ab, ao, none⟩ ∧ ∀ j, j < n → ∃ v, w.cell? ⟨ab, ao + j, none⟩ = some v ∧ PRdn w v (Dn.at' l j))
def PDn (w : World) (v : Value) (l : Name) : Prop := ∃ b A n cap, v = .pointer (some ⟨b, 0, none⟩) ∧ w.cell? ⟨b, 0, none⟩ = some (.slice A n cap) ∧ n ≤ 1000 ∧ n ≤ cap ∧ cap ≤ maxLen ∧ PRdns w A n l

theorem PAttr.grew {w w' : World} {v : Value} {a : Attr} (h : PAttr w v a) (hg : K.Grew w w') : PAttr w' v a := by
  obtain ⟨b, e, c0, c1⟩ := h
  exact ⟨b, e, hg.cell c0, hg.cell c1⟩
theorem PAttrs.grew {w w' : World} {A : Option Addr} {n : Nat} {l : List Attr} (h : PAttrs w A n l) (hg : K.Grew w w') : PAttrs w' A n l := by
  refine ⟨h.1, fun h0 => ?_⟩
  obtain ⟨ab, ao, e, hc⟩ := h.2 h0
  refine ⟨ab, ao, e, fun j hj => ?_⟩
  obtain ⟨v, c, ha⟩ := hc j hj
  exact ⟨v, hg.cell c, ha.grew hg⟩
theorem PRdn.grew {w w' : World} {v : Value} {l : List Attr} (h : PRdn w v l) (hg : K.Grew w w') : PRdn w' v l := by
  obtain ⟨b, A, n, cap, e, c, hn, ha⟩ := h
  exact ⟨b, A, n, cap, e, hg.cell c, hn, ha.grew hg⟩
theorem PRdns.grew {w w' : World} {A : Option Addr} {n : Nat} {l : Name} (h : PRdns w A n l) (hg : K.Grew w w') : PRdns w' A n l := by
  refine ⟨h.1, fun h0 => ?_⟩
  obtain ⟨ab, ao, e, hc⟩ := h.2 h0
  refine ⟨ab, ao, e, fun j hj => ?_⟩
  obtain ⟨v, c, ha⟩ := hc j hj
  exact ⟨v, hg.cell c, ha.grew hg⟩
theorem PDn.grew {w w' : World} {v : Value} {l : Name} (h : PDn w v l) (hg : K.Grew w w') : PDn w' v l := by
  obtain ⟨b, A, n, cap, e, c, h1, h2, h3, ha⟩ := h
  exact ⟨b, A, n, cap, e, hg.cell c, h1, h2, h3, ha.grew hg⟩

theorem same_fold (a b : Attr) : Dn.same a b = (fold a.1 b.1 && (a.2.toList == b.2.toList)) := by
  rw [beq_lists]
  unfold Dn.same Dn.key fold
  by_cases h : Dn.lows a.1 = Dn.lows b.1 <;> simp [h]

set_option maxHeartbeats 2000000 in
set_option maxRecDepth 100000 in
theorem attrEq_no (b1 b2 : Nat) (p q r s : ByteArray) (w : World) (c0 : w.cell? ⟨b1, 0, none⟩ = some (.string p)) (_c1 : w.cell? ⟨b1, 1, none⟩ = some (.string q)) (c2 : w.cell? ⟨b2, 0, none⟩ = some (.string r)) (_c3 : w.cell? ⟨b2, 1, none⟩ = some (.string s))
    (hf : ∀ w, Calls Tryd.prog 53 #[.string p, .string r] w (BoolIs false w)) : Calls Tryd.prog 50 #[.pointer (some ⟨b1, 0, none⟩), .pointer (some ⟨b2, 0, none⟩)] w (BoolIs false w) := by
  go_enter Tryd.func50, Tryd.ntmps50
  go_wp2_with fail
  refine K.wp_region_grew (by kernel_rfl) (by kernel_rfl) ?_
  repeat (first
    | go_big_quiet_skip
    | (go_big_quiet_want; go_big_quiet_op; go_big_quiet_on)
    | (go_big_quiet_want; go_big_quiet_op; refine ⟨_, fun _ _ => rfl, ?_⟩; go_big_quiet_on)
    | (go_big_quiet_want; refine K.quiet_cell (v := ?_) ?_ _ _ rfl rfl ?_ ?_
       rotate_left
       · assumption
       · (intro w hw; go_simp)
       simp only [Act.put, List.setIfInBounds_toArray, List.set_cons_zero, List.set_cons_succ]
       go_big_quiet_on)
    | (go_big_quiet_want; refine K.quiet_load _ _ rfl _ rfl ?_ ?_ ?_
       rotate_left
       · assumption
       simp only [Act.put, List.setIfInBounds_toArray, List.set_cons_zero, List.set_cons_succ]
       go_big_quiet_on)
    | (go_big_quiet_want; go_big_quiet_op; apply Exists.intro
       refine ⟨fun w hw => ?_, ?_⟩
       · first | with_reducible exact quiet_of_bool hw (hf _)
       go_big_quiet_on))
  refine wpQuiet_nil ?_
  intro w' hw'
  go_wp2_with fail
  go_ret
  exact ⟨rfl, hw'⟩

set_option maxHeartbeats 2000000 in
set_option maxRecDepth 100000 in
theorem attrEq_yes (b1 b2 : Nat) (p q r s : ByteArray) (w : World) (c0 : w.cell? ⟨b1, 0, none⟩ = some (.string p)) (c1 : w.cell? ⟨b1, 1, none⟩ = some (.string q)) (c2 : w.cell? ⟨b2, 0, none⟩ = some (.string r)) (c3 : w.cell? ⟨b2, 1, none⟩ = some (.string s))
    (hf : ∀ w, Calls Tryd.prog 53 #[.string p, .string r] w (BoolIs true w)) : Calls Tryd.prog 50 #[.pointer (some ⟨b1, 0, none⟩), .pointer (some ⟨b2, 0, none⟩)] w (BoolIs (q.toList == s.toList) w) := by
  go_enter Tryd.func50, Tryd.ntmps50
  go_wp2_with fail
  refine K.wp_region_grew (by kernel_rfl) (by kernel_rfl) ?_
  repeat (first
    | go_big_quiet_skip
    | (go_big_quiet_want; go_big_quiet_op; go_big_quiet_on)
    | (go_big_quiet_want; go_big_quiet_op; refine ⟨_, fun _ _ => rfl, ?_⟩; go_big_quiet_on)
    | (go_big_quiet_want; refine K.quiet_cell (v := ?_) ?_ _ _ rfl rfl ?_ ?_
       rotate_left
       · assumption
       · (intro w hw; go_simp)
       simp only [Act.put, List.setIfInBounds_toArray, List.set_cons_zero, List.set_cons_succ]
       go_big_quiet_on)
    | (go_big_quiet_want; refine K.quiet_load _ _ rfl _ rfl ?_ ?_ ?_
       rotate_left
       · assumption
       simp only [Act.put, List.setIfInBounds_toArray, List.set_cons_zero, List.set_cons_succ]
       go_big_quiet_on)
    | (go_big_quiet_want; go_big_quiet_op; apply Exists.intro
       refine ⟨fun w hw => ?_, ?_⟩
       · first | with_reducible exact quiet_of_bool hw (hf _)
       go_big_quiet_on))
  refine wpQuiet_nil ?_
  intro w' hw'
  go_wp2_with fail
  go_ret
  exact ⟨rfl, hw'⟩

def Short (l : List Attr) : Prop := ∀ x ∈ l, x.1.size ≤ 1000000
theorem attrEq_any (u v : Value) (a b : Attr) (w : World) (hu : PAttr w u a) (hv : PAttr w v b) (ha : a.1.size ≤ 1000000) (hb : b.1.size ≤ 1000000) : Calls Tryd.prog 50 #[u, v] w (BoolIs (Dn.same a b) w) := by
  obtain ⟨b1, rfl, c0, c1⟩ := hu
  obtain ⟨b2, rfl, c2, c3⟩ := hv
  rw [same_fold]
  cases h : fold a.1 b.1 with
  | false => exact attrEq_no b1 b2 _ _ _ _ w c0 c1 c2 c3 fun w => by have := zzFold_any a.1 b.1 w ha hb; rwa [h] at this
  | true => exact attrEq_yes b1 b2 _ _ _ _ w c0 c1 c2 c3 fun w => by have := zzFold_any a.1 b.1 w ha hb; rwa [h] at this

theorem hasAll_no {r l : List Attr} {k : Nat} (h : k < l.length) (e : Dn.has r (atA l k) = false) : Dn.hasAll r l = false := by
  cases h2 : Dn.hasAll r l with
  | false => rfl
  | true => rw [Dn.hasAll, List.all_eq_true] at h2; rw [h2 _ (atA_mem h)] at e; cases e
theorem hasAll_yes {r l : List Attr} (e : ∀ k, k < l.length → Dn.has r (atA l k) = true) : Dn.hasAll r l = true := by
  rw [Dn.hasAll, List.all_eq_true]
  intro x hx
  obtain ⟨k, hk, rfl⟩ := List.getElem_of_mem hx
  have := e k hk
  rwa [atA, List.getD, List.getElem?_eq_getElem hk] at this

set_option maxHeartbeats 4000000 in
set_option maxRecDepth 100000 in
theorem hasAll_any (v : Value) (A : Option Addr) (n cap : Nat) (r l : List Attr) (w : World) (hr : PRdn w v r) (hl : PAttrs w A n l) (hn : n ≤ 1000) (hrs : Short r) (hls : Short l) :
    Calls Tryd.prog 47 #[v, .slice A n cap] w (BoolIs (Dn.hasAll r l) w) := by
  obtain ⟨F, hF⟩ : ∃ F, F = Dn.hasAll r l := ⟨_, rfl⟩
  rw [← hF]
  have HF := Lib.hid hF
  obtain ⟨rb, A2, m, cap2, rfl, cr, hm, hra⟩ := hr
  have HR := Lib.hid hra
  have HL := Lib.hid hl
  have HS := Lib.hid (And.intro hrs hls)
  have HC := Lib.hid cr
  clear hF hra hl hrs hls cr
  go_enter Tryd.func47, Tryd.ntmps47
  go_wp2_with fail
  go_loopg [12, 7, 21] (n + 1) (fun gk i _ _ wr => ∃ k : Nat, k ≤ n ∧ gk = n + 1 - k ∧ i = .int .i64 k ∧ K.Grew w wr ∧ Hid (∀ j, j < k → Dn.has r (atA l j) = true))
  case atStart => exact ⟨0, by omega, by omega, rfl, K.Grew.refl _, Lib.hid fun j hj => by omega⟩
  case round =>
    obtain ⟨k, hk, hg, rfl, hb, HN⟩ := hrel
    have HB := Lib.hid hb
    clear hb
    by_cases hlt : k < n
    · obtain ⟨ab, ao, rfl, hcs⟩ := HL.out.2 (by omega)
      obtain ⟨va, c0', hva⟩ := hcs k hlt
      have c0 := HB.out.cell c0'
      have cr := HB.out.cell HC.out
      have HVA := Lib.hid (hva.grew HB.out)
      have hza := HS.out.2 _ (atA_mem (l := l) (k := k) (by rw [HL.out.1]; exact hlt))
      have HNS := Lib.hid (fun h => AllTo.snoc (P := fun j => Dn.has r (atA l j) = true) HN.out h)
      have HNO := Lib.hid (fun h => hasAll_no (r := r) (l := l) (k := k) (by rw [HL.out.1]; exact hlt) h)
      clear hcs c0' hva HN
      generalize atA l k = a at *
      obtain ⟨ab0, hab0⟩ : ∃ b, va = .pointer (some ⟨b, 0, none⟩) := by obtain ⟨b, e, _⟩ := HVA.out; exact ⟨b, e⟩
      subst hab0
      go_wp2_with fail
      obtain ⟨wo, hwo⟩ : ∃ wo : World, wo = wr := ⟨_, rfl⟩
      subst hwo
      go_loopg [21, 7] (m + 1) (fun g2 i2 fd wi => ∃ q : Nat, q ≤ m ∧ g2 = m + 1 - q ∧ i2 = .int .i64 q ∧ fd = .bool false ∧ K.Grew wo wi ∧ Hid (∀ j, j < q → Dn.same (atA r j) a = false))
      case atStart => exact ⟨0, by omega, by omega, rfl, rfl, K.Grew.refl _, Lib.hid fun j hj => by omega⟩
      case round =>
        obtain ⟨q, hq, hg2, rfl, rfl, hb2, HM⟩ := hrel
        have HB2 := Lib.hid hb2
        clear hb2
        by_cases hq2 : q < m
        · obtain ⟨ab2, ao2, rfl, hcs2⟩ := HR.out.2 (by omega)
          obtain ⟨vm, c1', hvm⟩ := hcs2 q hq2
          have c1 := HB2.out.cell (HB.out.cell c1')
          have HVM := Lib.hid ((hvm.grew HB.out).grew HB2.out)
          have HVA2 := Lib.hid (HVA.out.grew HB2.out)
          have hzm := HS.out.1 _ (atA_mem (l := r) (k := q) (by rw [HR.out.1]; exact hq2))
          clear hcs2 c1' hvm
          obtain ⟨mb, hmb⟩ : ∃ b, vm = .pointer (some ⟨b, 0, none⟩) := by obtain ⟨b, e, _⟩ := HVM.out; exact ⟨b, e⟩
          subst hmb
          go_wp2_with fail
          refine (attrEq_any _ _ _ _ _ HVM.out HVA2.out hzm hza).mono ?_
          rintro e w2 ⟨rfl, hb3⟩
          have HB3 := Lib.hid (HB2.out.then hb3)
          clear hb3
          cases hs : Dn.same (atA r q) a with
          | false =>
            have HSm := Lib.hid hs
            clear hs
            go_wp2_with fail
            go_roundg (m - q)
            case measure => omega
            case rel => exact ⟨q + 1, by omega, by omega, by go_num, rfl, HB3.out, Lib.hid (NoneTo.snoc HM.out HSm.out)⟩
          | true =>
            have hh : Dn.has r a = true := has_true (by rw [HR.out.1]; exact hq2) hs
            have HH := Lib.hid hh
            clear hs hh
            go_wp2_with fail
            go_roundg (n - k)
            case measure => omega
            case rel => exact ⟨k + 1, by omega, by omega, by go_num, HB.out.then HB3.out, Lib.hid (HNS.out HH.out)⟩
        · have hh : Dn.has r a = false := has_false fun j hj => HM.out j (by rw [HR.out.1] at hj; omega)
          have HH := Lib.hid hh
          clear hh
          go_wp2_with fail
          go_ret
          exact ⟨ret_bool (by rw [HF.out, HNO.out HH.out]), HB.out.then HB2.out⟩
    · have hy : Dn.hasAll r l = true := hasAll_yes fun j hj => HN.out j (by have := HL.out.1; omega)
      go_wp2_with fail
      go_ret
      exact ⟨ret_bool (by rw [HF.out, hy]), HB.out⟩
end Go.Proofs.YtnjjhklefamaoaaDoor
