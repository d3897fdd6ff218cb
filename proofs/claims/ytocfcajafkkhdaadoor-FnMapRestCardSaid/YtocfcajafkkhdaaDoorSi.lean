/-
  subjectInfo: a subject's tokens, how many of them are the wildcard of one token, and whether the last one stands for all that follows.
-/
import Derived.Test.YtocfcajafkkhdaaDoorSp
namespace Go.Proofs.YtocfcajafkkhdaaDoor
open Go.RowKit

theorem sp_length (c : UInt8) : ∀ (s : List UInt8), (sp c s).length ≤ s.length + 1
  | [] => by simp [sp]
  | x :: r => by
    have h := sp_length c r
    unfold sp
    split
    · simp; omega
    · split
      · simp
      · next e => rw [e] at h; simp at h ⊢; omega
/-- tokens that are a subject's: none is empty, the one that stands for all that follows is the last alone -/
def Toks (ts : List (List UInt8)) : Prop := (∀ t ∈ ts, t ≠ []) ∧ ∀ (a b : List (List UInt8)), ts = a ++ [62] :: b → b = []
def fwc (ts : List (List UInt8)) : Bool := ts.any (· == [62])
def pwcs (ts : List (List UInt8)) : Nat := ts.countP (· == [42])
theorem fwc_nil : fwc [] = false := rfl
theorem fwc_snoc (a : List (List UInt8)) (t : List UInt8) : fwc (a ++ [t]) = (fwc a || t == [62]) := by simp [fwc]
theorem pwcs_snoc (a : List (List UInt8)) (t : List UInt8) : pwcs (a ++ [t]) = pwcs a + if t = [42] then 1 else 0 := by
  simp [pwcs, List.countP_append, List.countP_cons]
theorem Toks.no {ts : List (List UInt8)} (h : Toks ts) {a b : List (List UInt8)} {t : List UInt8} (e : ts = a ++ t :: b) : fwc a = false := by
  cases hf : fwc a with
  | false => rfl
  | true =>
    obtain ⟨u, hu, hx⟩ := List.any_eq_true.1 hf
    have hu2 : u = [62] := by simpa using hx
    subst hu2
    obtain ⟨a1, a2, rfl⟩ := List.append_of_mem hu
    have := h.2 a1 (a2 ++ t :: b) (by rw [e]; simp)
    simp at this
theorem bs_size (t : List UInt8) : (⟨t.toArray⟩ : ByteArray).size = t.length := by rw [← K.bsize]

def InfoPost (ts : List (List UInt8)) (w : World) (e : Ending) (w' : World) : Prop :=
  ∃ v, e = .returned (.tuple #[.bool true, v, .int .i64 (pwcs ts), .bool (fwc ts)]) ∧ Below w.heap.size w w' ∧ w'.ownsRow w.heap.size 9 1 v ts.length (ts.map sv)
set_option maxHeartbeats 1000000 in
set_option maxRecDepth 100000 in
theorem info_any (s : ByteArray) (w : World) (hs : s.size ≤ 100000) (ht : Toks (sp 46 s.data.toList)) : Calls Tryd.prog 38 #[.string s] w (InfoPost (sp 46 s.data.toList) w) := by
  have e1 : s.toList.isEmpty = false := by
    rw [ByteArray.toList_eq]
    cases h : s.data.toList with
    | nil =>
      rw [h] at ht
      exact absurd rfl (ht.1 [] (by simp [sp]))
    | cons x r => rfl
  have hsp := split_any 46 s
  have HT := Lib.hid ht
  clear ht
  go_enter Tryd.func38, Tryd.ntmps38
  go_wp2_with fail
  refine (hsp _ hs).mono ?_
  clear hsp
  rintro e w1 ⟨v, rfl, hb, hown⟩
  generalize hts : sp 46 s.data.toList = ts at HT hown ⊢
  have hlen : ts.length ≤ 100001 := by rw [← hts]; have := sp_length 46 s.data.toList; rw [K.bsize] at this; omega
  have HTS := Lib.hid hts
  clear hts
  obtain ⟨A, cap, rfl, hnc, hlen', hA, hbase⟩ := K.lies_of_own hown
  have HA := Lib.hid hA
  have HO := Lib.hid (And.intro hown hb)
  clear hlen' hA hbase hown hb e1
  go_wp2_with fail
  go_loop [6, 7, 17] (fun p f i => ∃ k : Nat, k ≤ ts.length ∧ i = .int .i64 k ∧ p = .int .i64 (pwcs (ts.take k)) ∧ f = .bool (fwc (ts.take k))) (fun _ _ i => ts.length - (intOf i).toNat)
  case atStart => exact ⟨0, Nat.zero_le _, rfl, rfl, rfl⟩
  case round =>
    obtain ⟨k, hk, rfl, rfl, rfl⟩ := hrel
    by_cases hlt : k < ts.length
    · have hsp : ts = ts.take k ++ ts[k] :: ts.drop (k + 1) := by rw [← List.drop_eq_getElem_cons hlt, List.take_append_drop]
      have hno := HT.out.no hsp
      have hne := HT.out.1 ts[k] (List.getElem_mem _)
      obtain ⟨ab, ao, rfl, hab, hcs⟩ := HA.out (by omega)
      have c1 : w1.cell? ⟨ab, ao + k, none⟩ = some (sv ts[k]) := by
        rw [hcs k hlt]; simp [List.getD, hlt]
      have hf := fwc_snoc (ts.take k) ts[k]
      have hp := pwcs_snoc (ts.take k) ts[k]
      rw [← List.take_succ_eq_append_getElem hlt] at hf hp
      have hcnt : pwcs (ts.take k) ≤ k := by
        have := List.countP_le_length (p := (· == [42])) (l := ts.take k)
        rw [List.length_take] at this
        unfold pwcs
        omega
      rw [hno]
      rw [hno, Bool.false_or] at hf
      clear hsp hcs hno
      generalize ts[k] = t at hne c1 hf hp
      obtain ⟨tb, htb⟩ : ∃ tb : ByteArray, (⟨t.toArray⟩ : ByteArray) = tb := ⟨_, rfl⟩
      have hsz : tb.size = t.length := by rw [← htb, bs_size]
      have htl : tb.data.toList = t := by rw [← htb]
      unfold sv at c1
      rw [htb] at c1
      have hpos : 0 < tb.size := by rw [hsz]; exact List.length_pos_iff.2 hne
      have z0 : ((tb.size : Int) == 0) = false := by rw [beq_eq_false_iff_ne]; omega
      have HF := Lib.hid hf
      have HP := Lib.hid hp
      have HTL := Lib.hid htl
      clear hf hp htb hsz hne htl
      by_cases h1 : 1 < tb.size
      · have HX := Lib.hid (show t ≠ [62] ∧ t ≠ [42] by rw [← HTL.out]; constructor <;> (intro e; have := congrArg List.length e; rw [K.bsize] at this; simp at this; omega))
        go_wp2_with fail
        go_round
        case rel => exact ⟨k + 1, by omega, by go_num, by rw [HP.out, if_neg HX.out.2]; rfl, by rw [HF.out, beq_eq_false_iff_ne.2 HX.out.1]⟩
        case measure => simp [intOf]; omega
      · have h1' : tb.size = 1 := by omega
        have ht : t = [tb[0]] := by
          rw [← HTL.out]
          have := K.bsize tb
          rw [h1'] at this
          obtain ⟨x, hx⟩ := List.length_eq_one_iff.1 this
          have e0 : tb.data.toList[0]? = some tb[0] := get_at (by omega)
          rw [hx] at e0 ⊢
          simpa using e0
        have HS := Lib.hid h1'
        have HT1 := Lib.hid ht
        have h1i : ¬ (1 : Int) < (tb.size : Int) := by omega
        clear h1 h1' ht
        by_cases h62 : tb[0] = 62
        · have e62 : ((tb[0].toNat : Nat) : Int) = 62 := congrArg (fun c : UInt8 => ((c.toNat : Nat) : Int)) h62
          have HX := Lib.hid h62
          clear h62
          go_wp2_with fail
          go_round
          case rel => exact ⟨k + 1, by omega, by go_num, by rw [HP.out, if_neg (by rw [HT1.out, HX.out]; decide)]; rfl, by rw [HF.out, HT1.out, HX.out]; rfl⟩
          case measure => simp [intOf]; omega
        · have e62 : ¬ ((tb[0].toNat : Nat) : Int) = 62 := fun e => h62 (UInt8.toNat_inj.1 (by simpa using (show tb[0].toNat = 62 by omega)))
          have HX := Lib.hid h62
          clear h62
          by_cases h42 : tb[0] = 42
          · have e42 : ((tb[0].toNat : Nat) : Int) = 42 := congrArg (fun c : UInt8 => ((c.toNat : Nat) : Int)) h42
            have HY := Lib.hid h42
            clear h42 e62
            go_wp2_with fail
            go_round
            case rel => exact ⟨k + 1, by omega, by go_num, by rw [HP.out, if_pos (by rw [HT1.out, HY.out])]; go_num, by rw [HF.out, HT1.out, HY.out]; rfl⟩
            case measure => simp [intOf]; omega
          · have e42 : ¬ ((tb[0].toNat : Nat) : Int) = 42 := fun e => h42 (UInt8.toNat_inj.1 (by simpa using (show tb[0].toNat = 42 by omega)))
            have HY := Lib.hid h42
            clear h42
            go_wp2_with fail
            go_round
            case rel => exact ⟨k + 1, by omega, by go_num, by rw [HP.out, if_neg (by rw [HT1.out]; intro e; exact HY.out (by simpa using e))]; rfl, by rw [HF.out, HT1.out]; simp [HX.out]⟩
            case measure => simp [intOf]; omega
    · go_wp2_with fail
      refine bodyPost_ret (v := .tuple #[.bool true, .slice A ts.length cap, .int .i64 (pwcs (ts.take k)), .bool (fwc (ts.take k))]) (by simp [results, Tryd.results38, go_sem]) rfl ?_
      have hkn : ts.take k = ts := List.take_of_length_le (by omega)
      rw [hkn, HTS.out]
      exact ⟨_, rfl, HO.out.2, HO.out.1⟩
end Go.Proofs.YtocfcajafkkhdaaDoor
