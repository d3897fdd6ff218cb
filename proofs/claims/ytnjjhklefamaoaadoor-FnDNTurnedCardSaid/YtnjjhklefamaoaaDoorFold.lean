/-
  zzFold compares two texts but for the letters' case; AttributeTypeAndValue.Equal by keys.
-/
import Derived.Test.YtnjjhklefamaoaaDoorKnown
namespace Go.Proofs.YtnjjhklefamaoaaDoor
open Go.RowKit
open Dn (Attr Name)

def fold (p q : ByteArray) : Bool := decide (Dn.lows p = Dn.lows q)
theorem fold_size {p q : ByteArray} (h : p.size ≠ q.size) : fold p q = false := by
  refine decide_eq_false fun e => h ?_
  have := congrArg List.length e
  simpa [Dn.lows, K.bsize] using this
theorem lows_at (p : ByteArray) (k : Nat) (h : k < p.size) : (Dn.lows p)[k]'(by simp [Dn.lows, h]) = Dn.low p[k] := by
  simp [Dn.lows]; rfl
theorem fold_no {p q : ByteArray} {k : Nat} (hp : k < p.size) (hq : k < q.size) (h : Dn.low p[k] ≠ Dn.low q[k]) : fold p q = false := by
  refine decide_eq_false fun e => h ?_
  rw [← lows_at p k hp, ← lows_at q k hq]
  simp only [e]
theorem fold_yes {p q : ByteArray} (hs : p.size = q.size) (h : ∀ k (hp : k < p.size) (hq : k < q.size), Dn.low p[k] = Dn.low q[k]) : fold p q = true := by
  refine decide_eq_true (List.ext_getElem (by simp [Dn.lows, hs]) fun k h1 h2 => ?_)
  have hp : k < p.size := by simpa [Dn.lows, K.bsize] using h1
  have hq : k < q.size := by omega
  rw [lows_at p k hp, lows_at q k hq]
  exact h k hp hq
theorem low_eq {c d : UInt8} : Dn.low c = Dn.low d ↔ ((Dn.low c).toNat : Int) = ((Dn.low d).toNat : Int) := by
  constructor
  · intro h; rw [h]
  · intro h; exact UInt8.toNat_inj.1 (by omega)

set_option maxHeartbeats 4000000 in
set_option maxRecDepth 100000 in
theorem zzFold_any (p q : ByteArray) (w : World) (hp : p.size ≤ 1000000) (_hq : q.size ≤ 1000000) : Calls Tryd.prog 53 #[.string p, .string q] w (BoolIs (fold p q) w) := by
  obtain ⟨F, hF⟩ : ∃ F, F = fold p q := ⟨_, rfl⟩
  rw [← hF]
  have HF := Lib.hid hF
  clear hF
  by_cases hsz : p.size = q.size
  · have HZ := Lib.hid hsz
    clear hsz
    obtain ⟨m, hm⟩ : ∃ m, m = q.size := ⟨_, rfl⟩
    go_enter Tryd.func53, Tryd.ntmps53
    have hz1 : ((p.size : Int) == (q.size : Int)) = true := by simp [HZ.out]
    have hz2 : ((p.size : Int) != (q.size : Int)) = false := by simp [HZ.out]
    go_wp2_with fail
    go_loopw [5] (fun i wr => ∃ k : Nat, k ≤ p.size ∧ i = .int .i64 k ∧ K.Grew w wr ∧ Hid (∀ j (hp : j < p.size) (hq : j < q.size), j < k → Dn.low p[j] = Dn.low q[j])) (fun i _ => p.size - (intOf i).toNat)
    case atStart => exact ⟨0, by omega, rfl, K.Grew.refl _, Lib.hid fun j _ _ h => by omega⟩
    case round =>
      obtain ⟨k, hk, rfl, hb, HN⟩ := hrel
      have HB := Lib.hid hb
      clear hb hz1 hz2
      by_cases hlt : k < p.size
      · have hlt2 : k < q.size := by have := HZ.out; omega
        have b0 : (0 : Int) ≤ (k : Int) := by omega
        have b1 : (k : Int) < (p.size : Int) := by omega
        have b2 : (k : Int) < (q.size : Int) := by omega
        go_wp2_with fail
        go_quiet (fail)
        have HG := Lib.hid (K.Grew.then HB.out (K.below_drewN (Below.refl wr.heap.size wr) nq))
        by_cases hc1 : 65 ≤ (p[k].toNat : Int)
        · by_cases hc2 : (p[k].toNat : Int) ≤ 90
          · have ec := Lib.hid (low_in p[k] ⟨hc1, hc2⟩)
            by_cases hd1 : 65 ≤ (q[k].toNat : Int)
            · by_cases hd2 : (q[k].toNat : Int) ≤ 90
              · have ed := Lib.hid (low_in q[k] ⟨hd1, hd2⟩)
                go_wp2_with fail
                all_goals first
                  | (rename_i hT
                     rw [bne_eq_false_iff_eq] at hT
                     have hy : Dn.low p[k] = Dn.low q[k] := low_eq.2 (by have h1 := ec.out; have h2 := ed.out; omega)
                     go_roundw
                     case rel =>
                       refine ⟨k + 1, by omega, by go_num, HG.out, Lib.hid fun j hj1 hj2 hj => ?_⟩
                       rcases Nat.lt_or_ge j k with h1 | h1
                       · exact HN.out j hj1 hj2 h1
                       · have : j = k := by omega
                         subst this; exact hy
                     case measure => (simp [intOf]; omega))
                  | (have hn : fold p q = false := fold_no hlt hlt2 fun e => by
                       have e2 := low_eq.1 e
                       have h1 := ec.out
                       have h2 := ed.out
                       try simp only [bne_iff_ne, ne_eq] at *
                       omega
                     go_ret
                     exact ⟨ret_bool (by rw [HF.out, hn]), HG.out⟩)
              · have ed := Lib.hid (low_out q[k] (by omega))
                go_wp2_with fail
                all_goals first
                  | (rename_i hT
                     rw [bne_eq_false_iff_eq] at hT
                     have hy : Dn.low p[k] = Dn.low q[k] := low_eq.2 (by have h1 := ec.out; have h2 := ed.out; omega)
                     go_roundw
                     case rel =>
                       refine ⟨k + 1, by omega, by go_num, HG.out, Lib.hid fun j hj1 hj2 hj => ?_⟩
                       rcases Nat.lt_or_ge j k with h1 | h1
                       · exact HN.out j hj1 hj2 h1
                       · have : j = k := by omega
                         subst this; exact hy
                     case measure => (simp [intOf]; omega))
                  | (have hn : fold p q = false := fold_no hlt hlt2 fun e => by
                       have e2 := low_eq.1 e
                       have h1 := ec.out
                       have h2 := ed.out
                       try simp only [bne_iff_ne, ne_eq] at *
                       omega
                     go_ret
                     exact ⟨ret_bool (by rw [HF.out, hn]), HG.out⟩)
            · have ed := Lib.hid (low_out q[k] (by omega))
              go_wp2_with fail
              all_goals first
                | (rename_i hT
                   rw [bne_eq_false_iff_eq] at hT
                   have hy : Dn.low p[k] = Dn.low q[k] := low_eq.2 (by have h1 := ec.out; have h2 := ed.out; omega)
                   go_roundw
                   case rel =>
                     refine ⟨k + 1, by omega, by go_num, HG.out, Lib.hid fun j hj1 hj2 hj => ?_⟩
                     rcases Nat.lt_or_ge j k with h1 | h1
                     · exact HN.out j hj1 hj2 h1
                     · have : j = k := by omega
                       subst this; exact hy
                   case measure => (simp [intOf]; omega))
                | (have hn : fold p q = false := fold_no hlt hlt2 fun e => by
                     have e2 := low_eq.1 e
                     have h1 := ec.out
                     have h2 := ed.out
                     try simp only [bne_iff_ne, ne_eq] at *
                     omega
                   go_ret
                   exact ⟨ret_bool (by rw [HF.out, hn]), HG.out⟩)
          · have ec := Lib.hid (low_out p[k] (by omega))
            by_cases hd1 : 65 ≤ (q[k].toNat : Int)
            · by_cases hd2 : (q[k].toNat : Int) ≤ 90
              · have ed := Lib.hid (low_in q[k] ⟨hd1, hd2⟩)
                go_wp2_with fail
                all_goals first
                  | (rename_i hT
                     rw [bne_eq_false_iff_eq] at hT
                     have hy : Dn.low p[k] = Dn.low q[k] := low_eq.2 (by have h1 := ec.out; have h2 := ed.out; omega)
                     go_roundw
                     case rel =>
                       refine ⟨k + 1, by omega, by go_num, HG.out, Lib.hid fun j hj1 hj2 hj => ?_⟩
                       rcases Nat.lt_or_ge j k with h1 | h1
                       · exact HN.out j hj1 hj2 h1
                       · have : j = k := by omega
                         subst this; exact hy
                     case measure => (simp [intOf]; omega))
                  | (have hn : fold p q = false := fold_no hlt hlt2 fun e => by
                       have e2 := low_eq.1 e
                       have h1 := ec.out
                       have h2 := ed.out
                       try simp only [bne_iff_ne, ne_eq] at *
                       omega
                     go_ret
                     exact ⟨ret_bool (by rw [HF.out, hn]), HG.out⟩)
              · have ed := Lib.hid (low_out q[k] (by omega))
                go_wp2_with fail
                all_goals first
                  | (rename_i hT
                     rw [bne_eq_false_iff_eq] at hT
                     have hy : Dn.low p[k] = Dn.low q[k] := low_eq.2 (by have h1 := ec.out; have h2 := ed.out; omega)
                     go_roundw
                     case rel =>
                       refine ⟨k + 1, by omega, by go_num, HG.out, Lib.hid fun j hj1 hj2 hj => ?_⟩
                       rcases Nat.lt_or_ge j k with h1 | h1
                       · exact HN.out j hj1 hj2 h1
                       · have : j = k := by omega
                         subst this; exact hy
                     case measure => (simp [intOf]; omega))
                  | (have hn : fold p q = false := fold_no hlt hlt2 fun e => by
                       have e2 := low_eq.1 e
                       have h1 := ec.out
                       have h2 := ed.out
                       try simp only [bne_iff_ne, ne_eq] at *
                       omega
                     go_ret
                     exact ⟨ret_bool (by rw [HF.out, hn]), HG.out⟩)
            · have ed := Lib.hid (low_out q[k] (by omega))
              go_wp2_with fail
              all_goals first
                | (rename_i hT
                   rw [bne_eq_false_iff_eq] at hT
                   have hy : Dn.low p[k] = Dn.low q[k] := low_eq.2 (by have h1 := ec.out; have h2 := ed.out; omega)
                   go_roundw
                   case rel =>
                     refine ⟨k + 1, by omega, by go_num, HG.out, Lib.hid fun j hj1 hj2 hj => ?_⟩
                     rcases Nat.lt_or_ge j k with h1 | h1
                     · exact HN.out j hj1 hj2 h1
                     · have : j = k := by omega
                       subst this; exact hy
                   case measure => (simp [intOf]; omega))
                | (have hn : fold p q = false := fold_no hlt hlt2 fun e => by
                     have e2 := low_eq.1 e
                     have h1 := ec.out
                     have h2 := ed.out
                     try simp only [bne_iff_ne, ne_eq] at *
                     omega
                   go_ret
                   exact ⟨ret_bool (by rw [HF.out, hn]), HG.out⟩)
        · have ec := Lib.hid (low_out p[k] (by omega))
          by_cases hd1 : 65 ≤ (q[k].toNat : Int)
          · by_cases hd2 : (q[k].toNat : Int) ≤ 90
            · have ed := Lib.hid (low_in q[k] ⟨hd1, hd2⟩)
              go_wp2_with fail
              all_goals first
                | (rename_i hT
                   rw [bne_eq_false_iff_eq] at hT
                   have hy : Dn.low p[k] = Dn.low q[k] := low_eq.2 (by have h1 := ec.out; have h2 := ed.out; omega)
                   go_roundw
                   case rel =>
                     refine ⟨k + 1, by omega, by go_num, HG.out, Lib.hid fun j hj1 hj2 hj => ?_⟩
                     rcases Nat.lt_or_ge j k with h1 | h1
                     · exact HN.out j hj1 hj2 h1
                     · have : j = k := by omega
                       subst this; exact hy
                   case measure => (simp [intOf]; omega))
                | (have hn : fold p q = false := fold_no hlt hlt2 fun e => by
                     have e2 := low_eq.1 e
                     have h1 := ec.out
                     have h2 := ed.out
                     try simp only [bne_iff_ne, ne_eq] at *
                     omega
                   go_ret
                   exact ⟨ret_bool (by rw [HF.out, hn]), HG.out⟩)
            · have ed := Lib.hid (low_out q[k] (by omega))
              go_wp2_with fail
              all_goals first
                | (rename_i hT
                   rw [bne_eq_false_iff_eq] at hT
                   have hy : Dn.low p[k] = Dn.low q[k] := low_eq.2 (by have h1 := ec.out; have h2 := ed.out; omega)
                   go_roundw
                   case rel =>
                     refine ⟨k + 1, by omega, by go_num, HG.out, Lib.hid fun j hj1 hj2 hj => ?_⟩
                     rcases Nat.lt_or_ge j k with h1 | h1
                     · exact HN.out j hj1 hj2 h1
                     · have : j = k := by omega
                       subst this; exact hy
                   case measure => (simp [intOf]; omega))
                | (have hn : fold p q = false := fold_no hlt hlt2 fun e => by
                     have e2 := low_eq.1 e
                     have h1 := ec.out
                     have h2 := ed.out
                     try simp only [bne_iff_ne, ne_eq] at *
                     omega
                   go_ret
                   exact ⟨ret_bool (by rw [HF.out, hn]), HG.out⟩)
          · have ed := Lib.hid (low_out q[k] (by omega))
            go_wp2_with fail
            all_goals first
              | (rename_i hT
                 rw [bne_eq_false_iff_eq] at hT
                 have hy : Dn.low p[k] = Dn.low q[k] := low_eq.2 (by have h1 := ec.out; have h2 := ed.out; omega)
                 go_roundw
                 case rel =>
                   refine ⟨k + 1, by omega, by go_num, HG.out, Lib.hid fun j hj1 hj2 hj => ?_⟩
                   rcases Nat.lt_or_ge j k with h1 | h1
                   · exact HN.out j hj1 hj2 h1
                   · have : j = k := by omega
                     subst this; exact hy
                 case measure => (simp [intOf]; omega))
              | (have hn : fold p q = false := fold_no hlt hlt2 fun e => by
                   have e2 := low_eq.1 e
                   have h1 := ec.out
                   have h2 := ed.out
                   try simp only [bne_iff_ne, ne_eq] at *
                   omega
                 go_ret
                 exact ⟨ret_bool (by rw [HF.out, hn]), HG.out⟩)
      · have hk' : k = p.size := by omega
        have hy : fold p q = true := fold_yes HZ.out fun j h1 h2 => HN.out j h1 h2 (by omega)
        go_wp2_with fail
        go_ret
        exact ⟨ret_bool (by rw [HF.out, hy]), HB.out⟩
  · have hf : fold p q = false := fold_size hsz
    go_enter Tryd.func53, Tryd.ntmps53
    go_wp2_with fail
    go_ret
    exact ⟨ret_bool (by rw [HF.out, hf]), Below.refl _ _⟩
end Go.Proofs.YtnjjhklefamaoaaDoor
