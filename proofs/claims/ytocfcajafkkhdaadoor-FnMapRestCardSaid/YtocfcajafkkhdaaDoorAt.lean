/-
  Atoi and ParseInt at a text of at most nine digits.
-/
import Derived.Test.YtocfcajafkkhdaaDoorSp
namespace Go.Proofs.YtocfcajafkkhdaaDoor
open Go.RowKit

/-- a number in digits -/
def dec (l : List UInt8) : Nat := l.foldl (fun n c => n * 10 + (c.toNat - 48)) 0
theorem dec_snoc (l : List UInt8) (c : UInt8) : dec (l ++ [c]) = dec l * 10 + (c.toNat - 48) := by
  simp [dec, List.foldl_append]
def Digits (l : List UInt8) : Prop := l ≠ [] ∧ ∀ c ∈ l, 48 ≤ c.toNat ∧ c.toNat ≤ 57
theorem dec_lt : ∀ (n : Nat) (l : List UInt8), l.length = n → (∀ c ∈ l, 48 ≤ c.toNat ∧ c.toNat ≤ 57) → dec l < 10 ^ n
  | 0, l, h, _ => by
    rw [List.length_eq_zero_iff] at h
    subst h
    simp [dec]
  | n + 1, l, h, hd => by
    obtain ⟨a, c, rfl⟩ : ∃ a c, l = a ++ [c] := by
      have hl : l ≠ [] := by intro e; rw [e] at h; simp at h
      exact ⟨_, _, (List.dropLast_concat_getLast hl).symm⟩
    have ih := dec_lt n a (by simpa using h) (fun x hx => hd x (by simp [hx]))
    have hc := hd c (by simp)
    rw [dec_snoc, Nat.pow_succ]
    omega

theorem take_snoc (s : ByteArray) (k : Nat) (h : k < s.size) : s.data.toList.take (k + 1) = s.data.toList.take k ++ [s[k]] := by
  rw [List.take_succ_eq_append_getElem (by simpa using h)]; rfl
theorem mem_get {s : ByteArray} {k : Nat} (h : k < s.size) : s[k] ∈ s.data.toList := List.mem_of_getElem? (get_at h)
theorem getD_at {s : ByteArray} {k : Nat} (h : k < s.size) : s.data.toList.getD k 0 = s[k] := by rw [List.getD, get_at h]; rfl
theorem wrap_u64 (x : Int) (h1 : 0 ≤ x) (h2 : x ≤ 18446744073709551615) : IntKind.u64.wrap x = x := IntWalk.u64_in x ⟨h1, h2⟩
def UintPost (n : Nat) (w : World) (e : Ending) (w' : World) : Prop := e = .returned (.tuple #[.int .u64 n, .nilIface]) ∧ Below w.heap.size w w'
theorem conv78 (w : World) (s : ByteArray) : (convert 9 78 (.string s)).run Tryd.prog w = .ok (.slice (some ⟨w.heap.size, 0, none⟩) s.size (grownCap w s.size 0 5)) (Lib.bytesWorld w 5 s) :=
  Lib.run_convert_string_bytes w 9 78 5 s Tryd.underlying9 Tryd.underlying78 Tryd.underlying5
set_option maxHeartbeats 4000000 in
set_option maxRecDepth 100000 in
theorem uint_any (s : ByteArray) (b : Int) (hb : b = 0 ∨ b = 32) (w : World) (hs : s.size ≤ 9) (hd : Digits s.data.toList) : Calls Tryd.prog 73 #[.string s, .int .i64 10, .int .i64 b] w (UintPost (dec s.data.toList) w) := by
  have e1 : s.toList.isEmpty = false := by
    rw [ByteArray.toList_eq]
    exact List.isEmpty_eq_false_iff.2 hd.1
  have hc := conv78 w s
  have HD := Lib.hid hd
  clear hd
  rcases hb with rfl | rfl
  · go_enter Tryd.func73, Tryd.ntmps73
    go_wp2_with fail
    obtain ⟨M, hM, hM1, hM2⟩ : ∃ M : Int, IntKind.u64.wrap (IntKind.u64.wrap 18446744073709551616 - 1) = M ∧ (4294967295 : Int) ≤ M ∧ M ≤ 18446744073709551615 := ⟨_, rfl, by decide, by decide⟩
    rw [hM]
    have HM := Lib.hid hM2
    clear hM hM2
    go_loop [11, 12, 88] (fun n u i => ∃ k : Nat, k ≤ s.size ∧ i = .int .i64 k ∧ n = .int .u64 (dec (s.data.toList.take k)) ∧ u = .bool false) (fun _ _ i => s.size - (intOf i).toNat)
    case atStart => exact ⟨0, Nat.zero_le _, rfl, rfl, rfl⟩
    case round =>
      obtain ⟨k, hk, rfl, rfl, rfl⟩ := hrel
      by_cases hlt : k < s.size
      · have hcell := Lib.bytesWorld_cell w 5 s k hlt
        have hsn := take_snoc s k hlt
        have hb := HD.out.2 s[k] (mem_get hlt)
        rw [getD_at hlt] at hcell
        have hlt8 := dec_lt k (s.data.toList.take k) (by rw [List.length_take, K.bsize]; omega) (fun c hc => HD.out.2 c (List.mem_of_mem_take hc))
        have h8 : dec (s.data.toList.take k) < 100000000 := Nat.lt_of_lt_of_le hlt8 (by have : (10 : Nat) ^ k ≤ 10 ^ 8 := Nat.pow_le_pow_right (by omega) (by omega); omega)
        have hds : dec (s.data.toList.take (k + 1)) = dec (s.data.toList.take k) * 10 + (s[k].toNat - 48) := by rw [hsn, dec_snoc]
        have HN := Lib.hid hds
        clear hsn hlt8 hds
        generalize dec (s.data.toList.take k) = n at HN h8 ⊢
        generalize s[k] = c at hcell hb HN ⊢
        obtain ⟨hc1, hc2⟩ := hb
        obtain ⟨Q, hQ, hQ1⟩ : ∃ Q : Int, IntKind.u64.wrap ((IntKind.u64.wrap (M - ((c.toNat : Int) - 48))).tdiv 10) = Q ∧ 100000000 ≤ Q := by
          have hM2 := HM.out
          refine ⟨_, rfl, ?_⟩
          rw [wrap_u64 (M - ((c.toNat : Int) - 48)) (by omega) (by omega), Int.tdiv_eq_ediv_of_nonneg (by omega), wrap_u64 _ (by omega) (by omega)]
          omega
        have hn10 : (n : Int) ≤ Q := by omega
        go_wp2_with fail
        go_round
        case rel => exact ⟨k + 1, by omega, by go_num, by rw [HN.out]; go_num, rfl⟩
        case measure => simp [intOf]; omega
      · go_wp2_with fail
        go_ret2
        have hkn : s.data.toList.take k = s.data.toList := List.take_of_length_le (by rw [K.bsize]; omega)
        rw [hkn]
        exact ⟨rfl, K.bytesWorld_below w 5 s⟩
  · go_enter Tryd.func73, Tryd.ntmps73
    go_wp2_with fail
    obtain ⟨M, hM, hM1, hM2⟩ : ∃ M : Int, (4294967295 : Int) = M ∧ (4294967295 : Int) ≤ M ∧ M ≤ 18446744073709551615 := ⟨_, rfl, by decide, by decide⟩
    rw [hM]
    have HM := Lib.hid hM2
    clear hM hM2
    go_loop [11, 12, 88] (fun n u i => ∃ k : Nat, k ≤ s.size ∧ i = .int .i64 k ∧ n = .int .u64 (dec (s.data.toList.take k)) ∧ u = .bool false) (fun _ _ i => s.size - (intOf i).toNat)
    case atStart => exact ⟨0, Nat.zero_le _, rfl, rfl, rfl⟩
    case round =>
      obtain ⟨k, hk, rfl, rfl, rfl⟩ := hrel
      by_cases hlt : k < s.size
      · have hcell := Lib.bytesWorld_cell w 5 s k hlt
        have hsn := take_snoc s k hlt
        have hb := HD.out.2 s[k] (mem_get hlt)
        rw [getD_at hlt] at hcell
        have hlt8 := dec_lt k (s.data.toList.take k) (by rw [List.length_take, K.bsize]; omega) (fun c hc => HD.out.2 c (List.mem_of_mem_take hc))
        have h8 : dec (s.data.toList.take k) < 100000000 := Nat.lt_of_lt_of_le hlt8 (by have : (10 : Nat) ^ k ≤ 10 ^ 8 := Nat.pow_le_pow_right (by omega) (by omega); omega)
        have hds : dec (s.data.toList.take (k + 1)) = dec (s.data.toList.take k) * 10 + (s[k].toNat - 48) := by rw [hsn, dec_snoc]
        have HN := Lib.hid hds
        clear hsn hlt8 hds
        generalize dec (s.data.toList.take k) = n at HN h8 ⊢
        generalize s[k] = c at hcell hb HN ⊢
        obtain ⟨hc1, hc2⟩ := hb
        obtain ⟨Q, hQ, hQ1⟩ : ∃ Q : Int, IntKind.u64.wrap ((IntKind.u64.wrap (M - ((c.toNat : Int) - 48))).tdiv 10) = Q ∧ 100000000 ≤ Q := by
          have hM2 := HM.out
          refine ⟨_, rfl, ?_⟩
          rw [wrap_u64 (M - ((c.toNat : Int) - 48)) (by omega) (by omega), Int.tdiv_eq_ediv_of_nonneg (by omega), wrap_u64 _ (by omega) (by omega)]
          omega
        have hn10 : (n : Int) ≤ Q := by omega
        go_wp2_with fail
        go_round
        case rel => exact ⟨k + 1, by omega, by go_num, by rw [HN.out]; go_num, rfl⟩
        case measure => simp [intOf]; omega
      · go_wp2_with fail
        go_ret2
        have hkn : s.data.toList.take k = s.data.toList := List.take_of_length_le (by rw [K.bsize]; omega)
        rw [hkn]
        exact ⟨rfl, K.bytesWorld_below w 5 s⟩

end Go.Proofs.YtocfcajafkkhdaaDoor
