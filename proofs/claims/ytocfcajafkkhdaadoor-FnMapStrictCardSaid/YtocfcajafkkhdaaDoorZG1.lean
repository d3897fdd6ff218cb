/-
  zzIndex at a mark of one byte: its first place, or -1.
  zzSplit at a mark of one byte; a string appended to a slice of one's own.
  Atoi and ParseInt at a text of at most nine digits.
  parseInt, Atoi and ParseInt at a text of at most nine digits.
  indexPlaceHolders: at a plain token, and at '$' with digits behind.
  zzWhite, zzSkip, zzNamed and zzFunctionArgs at a token in double braces.
  zzFunctionArgs at a token in double braces.
  zzSplitArgs at a text without white space.
-/
import Derived.Test.YtocfcajafkkhdaaDoorTk
import Derived.Test.YtocfcajafkkhdaaDoorKit
import Derived.Test.YtocfcajafkkhdaaDoorChecked
import Derived.IntWalk
import Derived.Deep.Cut
/- Ix -/
section
namespace Go.Proofs.YtocfcajafkkhdaaDoor
open Go.RowKit

theorem beq_lists (a b : ByteArray) : (a.toList == b.toList) = decide (a = b) := by
  rw [ByteArray.toList_eq, ByteArray.toList_eq, Bool.eq_iff_iff, beq_iff_eq, decide_eq_true_eq]
  constructor
  · intro h
    exact ByteArray.ext (Array.ext' h)
  · rintro rfl; rfl
theorem ext1 (s : ByteArray) (k : Nat) (h : k < s.size) : s.extract k (k + 1) = ⟨#[s[k]]⟩ := by
  rw [Lib.extract_eq, show k + 1 - k = 1 from by omega, List.drop_eq_getElem_cons (by simpa using h)]
  rfl
theorem one_beq (s : ByteArray) (k : Nat) (h : k < s.size) (c : UInt8) : ((s.extract k (k + 1)).toList == [c]) = decide (s[k] = c) := by
  have e : ([c] : List UInt8) = (⟨#[c]⟩ : ByteArray).toList := (ByteArray.toList_eq (⟨#[c]⟩ : ByteArray)).symm
  rw [e, ext1 s k h, beq_lists]
  simp
/-- where the mark stands first -/
def IxPost (c : UInt8) (s : ByteArray) (w : World) (e : Ending) (w' : World) : Prop :=
  w = w' ∧ ((∃ k : Nat, k < s.size ∧ s.data.toList[k]? = some c ∧ (∀ j, j < k → s.data.toList[j]? ≠ some c) ∧ e = .returned (.int .i64 k)) ∨
    ((∀ j : Nat, s.data.toList[j]? ≠ some c) ∧ e = .returned (.int .i64 (-1))))
theorem get_at {s : ByteArray} {k : Nat} (h : k < s.size) : s.data.toList[k]? = some s[k] := by
  rw [List.getElem?_eq_getElem (by simpa using h)]; rfl
set_option maxRecDepth 100000 in
theorem index_any (c : UInt8) (s : ByteArray) (w : World) (hs : s.size ≤ 100000) : Calls Tryd.prog 48 #[.string s, .string ⟨#[c]⟩] w (IxPost c s w) := by

  have hl : (⟨#[c]⟩ : ByteArray).size = 1 := rfl
  go_enter Tryd.func48, Tryd.ntmps48
  go_wp2
  go_loop [5] (fun i => ∃ k : Nat, k ≤ s.size ∧ i = .int .i64 k ∧ Hid (∀ j, j < k → s.data.toList[j]? ≠ some c)) (fun i => s.size - (intOf i).toNat)
  case atStart => exact ⟨0, Nat.zero_le _, rfl, Lib.hid (fun j hj => by omega)⟩
  case round =>
    obtain ⟨k, hk, rfl, hN⟩ := hrel
    by_cases hlt : k < s.size
    · have hb := one_beq s k hlt c
      have b0 : (0 : Int) ≤ (k : Int) := by omega
      have b1 : (k : Int) ≤ (k : Int) + 1 := by omega
      have b2 : (k : Int) + 1 ≤ (s.size : Int) := by omega
      by_cases hc : s[k] = c
      · rw [decide_eq_true hc] at hb
        go_wp2_with fail
        go_ret
        exact ⟨rfl, .inl ⟨k, hlt, by rw [get_at hlt, hc], hN.out, rfl⟩⟩
      · rw [decide_eq_false hc] at hb
        go_wp2_with fail
        go_round
        case rel => exact ⟨k + 1, by omega, by go_num, Lib.hid (fun j hj => by
          rcases Nat.lt_or_ge j k with h | h
          · exact hN.out j h
          · obtain rfl : j = k := by omega
            rw [get_at hlt]
            exact fun e => hc (Option.some.inj e))⟩
        case measure => simp [intOf]; omega
    · have h1 : ¬ ((k : Int) + 1 ≤ (s.size : Int)) := by omega
      go_wp2_with fail
      go_ret
      refine ⟨rfl, .inr ⟨fun j => ?_, rfl⟩⟩
      rcases Nat.lt_or_ge j k with h | h
      · exact hN.out j h
      · rw [List.getElem?_eq_none (by simp; omega)]
        exact fun e => by cases e
end Go.Proofs.YtocfcajafkkhdaaDoor
end
/- Sp -/
section
namespace Go.Proofs.YtocfcajafkkhdaaDoor
open Go.RowKit

theorem info_parts {t : TypeId} {z : Value} {n b : Nat} (h : (Tryd.prog.info? t).map (fun i => (i.zero, i.size, i.bytes)) = some (some z, n, b)) : ∃ i : TypeInfo, Tryd.prog.info? t = some i ∧ i.zero = some z ∧ i.size = n ∧ i.bytes = b := by
  cases hi : Tryd.prog.info? t with
  | none => rw [hi] at h; cases h
  | some i =>
    rw [hi] at h
    simp only [Option.map_some, Option.some.injEq, Prod.mk.injEq] at h
    exact ⟨i, rfl, h.1, h.2.1, h.2.2⟩
theorem info9 : (Tryd.prog.info? 9).map (fun i => (i.zero, i.size, i.bytes)) = some (some (.string ByteArray.empty), 1, 16) := by kernel_rfl
theorem wpList_app_str {ops : Array Oper} {rest : List Oper} {o : Oper} {a : Act} {w : World} {Q : Exit → Act → World → Prop} (hgd : o.guard = none) (s x : Operand) (ho : o.op = .call { callee := .builtin .append, args := #[s, x], argTypes := #[22, 22] })
    (base : Nat) (v : Value) (n : Nat) (xs : List Value) (hs : a.eval s = v) (hown : w.ownsRow base 9 1 v n xs) (g c : Nat) (t : ByteArray) (hx : a.eval x = .slice (some ⟨g, 0, none⟩) 1 c) (hc : w.cell? ⟨g, 0, none⟩ = some (.string t))
    (hn : n ≤ 100000) (hbase : base ≤ w.heap.size) (h : ∀ v' w', w'.ownsRow base 9 1 v' (n + 1) (xs ++ [.string t]) → w.grownBy w' v.ownBlock → wpList Tryd.prog ops Q rest (a.put o.dst v') w') : wpList Tryd.prog ops Q (o :: rest) a w := by
  obtain ⟨i0, hi0, hz0, hz1, hz2⟩ := info_parts info9
  refine wpList_append_own _ hgd s x 22 ho base 9 i0 (.string ByteArray.empty) 1 16 Tryd.underlying22 hi0 hz0 hz1 hz2 rfl (by decide) v n xs hs hown ⟨g, 0, none⟩ 1 c [.string t] hx rfl ?_ (by intro u hu; simp at hu; subst hu; rfl) (by unfold maxLen; omega) (by omega) hbase (fun v' w' h1 h2 _ => h v' w' h1 h2)
  intro j u hj
  match j, hj with
  | 0, hj =>
    simp at hj
    subst hj
    rw [Addr.add_lit]
    exact hc

/-- a piece as a value -/
def sv (t : List UInt8) : Value := .string ⟨t.toArray⟩
theorem sv_of (s : ByteArray) : sv s.data.toList = .string s := by unfold sv; rw [K.bmk]
theorem ext_data (s : ByteArray) (a b : Nat) : (s.extract a b).data.toList = (s.data.toList.drop a).take (b - a) := Lib.extract_data s a b
def SplitPost (c : UInt8) (s : ByteArray) (w : World) (e : Ending) (w' : World) : Prop :=
  ∃ v, e = .returned v ∧ Below w.heap.size w w' ∧ w'.ownsRow w.heap.size 9 1 v (sp c s.data.toList).length ((sp c s.data.toList).map sv)
/-- what is cut off so far -/
def SpRel (c : UInt8) (s : ByteArray) (w : World) (k : Nat) (v : Value) (t : ByteArray) (wr : World) : Prop :=
  ∃ ds : List (List UInt8), ds.length = k ∧ sp c s.data.toList = ds ++ sp c t.data.toList ∧ k + t.size ≤ s.size ∧ wr.ownsRow w.heap.size 9 1 v k (ds.map sv) ∧ Below w.heap.size w wr
theorem SpRel.start (c : UInt8) (s : ByteArray) (w : World) : SpRel c s w 0 (.slice none 0 0) s w := ⟨[], rfl, rfl, by omega, World.ownsRow_nil _ _ _ _, Below.refl _ _⟩
theorem SpRel.own {c : UInt8} {s t : ByteArray} {w wr : World} {k : Nat} {v : Value} (h : SpRel c s w k v t wr) : ∃ xs, wr.ownsRow w.heap.size 9 1 v k xs := let ⟨_, _, _, _, h, _⟩ := h; ⟨_, h⟩
set_option maxHeartbeats 1000000 in
set_option maxRecDepth 100000 in
theorem split_any (c : UInt8) (s : ByteArray) (w : World) (hs : s.size ≤ 100000) : Calls Tryd.prog 34 #[.string s, .string ⟨#[c]⟩] w (SplitPost c s w) := by
  have hl : (⟨#[c]⟩ : ByteArray).size = 1 := rfl
  go_enter Tryd.func34, Tryd.ntmps34
  go_wp2_with fail
  go_loopg [0, 5] (s.size + 1) (fun gk sv_ v wr => ∃ (k : Nat) (t : ByteArray), gk = s.size + 1 - k ∧ k ≤ s.size ∧ t.size ≤ 100000 ∧ sv_ = .string t ∧ Hid (SpRel c s w k v t wr))
  case atStart => exact ⟨0, s, by omega, by omega, hs, rfl, Lib.hid (SpRel.start c s w)⟩
  case round =>
    obtain ⟨k, t, hg, hk, ht, rfl, H⟩ := hrel
    go_wp2_with fail
    refine (index_any c t _ ht).mono ?_
    rintro e w1 ⟨rfl, ⟨j, hj, hc, hN, rfl⟩ | ⟨hN, rfl⟩⟩
    · have b0 : (0 : Int) ≤ (j : Int) := by omega
      have b1 : (j : Int) ≤ (t.size : Int) := by omega
      have b2 : (j : Int) + 1 ≤ (t.size : Int) := by omega
      have HN := Lib.hid hN
      have HC := Lib.hid hc
      clear hN hc
      obtain ⟨ds, h1, h2, h3, h4, h5⟩ := H.out
      have H1 := Lib.hid h1
      have H2 := Lib.hid h2
      have H4 := Lib.hid h4
      clear h1 h2 h4 H
      have hsz := h5.size
      go_wp2_with (at_builtin; refine wpList_app_str rfl (.tmp 46) (.tmp 50) rfl w.heap.size _ _ _ rfl (H4.out.alloc _) _ _ _ rfl (by rw [World.cell?_alloc_at _ _ _ _ (by simp)]; rfl) (by omega) (by simp; omega) ?_; intro v1 w2 hown1 hgrow1)
      have hb1 : Below w.heap.size w w2 := (h5.alloc hsz _).grown hgrow1 (by simp; omega) (fun j hj => (H4.out.lt j hj).1)
      go_roundg (gk - 1)
      case measure => omega
      case rel =>
        refine ⟨k + 1, t.extract (j + 1) t.size, by omega, by omega, by rw [ByteArray.size_extract]; omega, rfl, Lib.hid ⟨ds ++ [t.data.toList.take j], by simp [H1.out], ?_, ?_, ?_, hb1⟩⟩
        · rw [H2.out, sp_first c t.data.toList j HC.out HN.out, ext_data, show List.take (t.size - (j + 1)) (List.drop (j + 1) t.data.toList) = List.drop (j + 1) t.data.toList from List.take_of_length_le (by rw [List.length_drop, K.bsize]; omega)]
          simp
        · rw [ByteArray.size_extract]; omega
        · rw [List.map_append, List.map_cons, List.map_nil]
          rw [show sv (t.data.toList.take j) = .string (t.extract 0 j) from by rw [← sv_of, ext_data]; simp]
          exact hown1
    · have HN := Lib.hid hN
      obtain ⟨ds, h1, h2, h3, h4, h5⟩ := H.out
      have H1 := Lib.hid h1
      have H2 := Lib.hid h2
      have H4 := Lib.hid h4
      clear h1 h2 h4 H hN
      have hsz := h5.size
      go_wp2_with (at_builtin; refine wpList_app_str rfl (.tmp 42) (.tmp 44) rfl w.heap.size _ _ _ rfl (H4.out.alloc _) _ _ _ rfl (by rw [World.cell?_alloc_at _ _ _ _ (by simp)]; rfl) (by omega) (by simp; omega) ?_; intro v1 w2 hown1 hgrow1)
      have hb1 : Below w.heap.size w w2 := (h5.alloc hsz _).grown hgrow1 (by simp; omega) (fun j hj => (H4.out.lt j hj).1)
      go_ret
      have e2 : sp c s.data.toList = ds ++ [t.data.toList] := by rw [H2.out, sp_none c _ HN.out]
      refine ⟨v1, rfl, hb1, ?_⟩
      rw [e2, List.map_append, List.map_cons, List.map_nil, sv_of, List.length_append, List.length_singleton, H1.out]
      exact hown1
end Go.Proofs.YtocfcajafkkhdaaDoor
end
/- At -/
section
namespace Go.Proofs.YtocfcajafkkhdaaDoor
open Go.RowKit

/-- a number in digits -/
def dec (l : List UInt8) : Nat := l.foldl (fun n c => n * 10 + (c.toNat - 48)) 0
theorem dec_snoc (l : List UInt8) (c : UInt8) : dec (l ++ [c]) = dec l * 10 + (c.toNat - 48) := by
  simp [dec, List.foldl_append]
def Digits (l : List UInt8) : Prop := l ≠ [] ∧ ∀ c ∈ l, 48 ≤ c.toNat ∧ c.toNat ≤ 57
theorem dec_lt : ∀ (n : Nat) (l : List UInt8), l.length = n → (∀ c ∈ l, 48 ≤ c.toNat ∧ c.toNat ≤ 57) → dec l < 10 ^ n
  | 0, l, h, _ => by
    rw [List.length_eq_zero_iff] at h
    subst h
    simp [dec]
  | n + 1, l, h, hd => by
    obtain ⟨a, c, rfl⟩ : ∃ a c, l = a ++ [c] := by
      have hl : l ≠ [] := by intro e; rw [e] at h; simp at h
      exact ⟨_, _, (List.dropLast_concat_getLast hl).symm⟩
    have ih := dec_lt n a (by simpa using h) (fun x hx => hd x (by simp [hx]))
    have hc := hd c (by simp)
    rw [dec_snoc, Nat.pow_succ]
    omega

theorem take_snoc (s : ByteArray) (k : Nat) (h : k < s.size) : s.data.toList.take (k + 1) = s.data.toList.take k ++ [s[k]] := by
  rw [List.take_succ_eq_append_getElem (by simpa using h)]; rfl
theorem mem_get {s : ByteArray} {k : Nat} (h : k < s.size) : s[k] ∈ s.data.toList := List.mem_of_getElem? (get_at h)
theorem getD_at {s : ByteArray} {k : Nat} (h : k < s.size) : s.data.toList.getD k 0 = s[k] := by rw [List.getD, get_at h]; rfl
theorem wrap_u64 (x : Int) (h1 : 0 ≤ x) (h2 : x ≤ 18446744073709551615) : IntKind.u64.wrap x = x := IntWalk.u64_in x ⟨h1, h2⟩
def UintPost (n : Nat) (w : World) (e : Ending) (w' : World) : Prop := e = .returned (.tuple #[.int .u64 n, .nilIface]) ∧ Below w.heap.size w w'
theorem conv78 (w : World) (s : ByteArray) : (convert 9 78 (.string s)).run Tryd.prog w = .ok (.slice (some ⟨w.heap.size, 0, none⟩) s.size (grownCap w s.size 0 5)) (Lib.bytesWorld w 5 s) :=
  Lib.run_convert_string_bytes w 9 78 5 s Tryd.underlying9 Tryd.underlying78 Tryd.underlying5
set_option maxHeartbeats 4000000 in
set_option maxRecDepth 100000 in
theorem uint_any (s : ByteArray) (b : Int) (hb : b = 0 ∨ b = 32) (w : World) (hs : s.size ≤ 9) (hd : Digits s.data.toList) : Calls Tryd.prog 73 #[.string s, .int .i64 10, .int .i64 b] w (UintPost (dec s.data.toList) w) := by
  have e1 : s.toList.isEmpty = false := by
    rw [ByteArray.toList_eq]
    exact List.isEmpty_eq_false_iff.2 hd.1
  have hc := conv78 w s
  have HD := Lib.hid hd
  clear hd
  rcases hb with rfl | rfl
  · go_enter Tryd.func73, Tryd.ntmps73
    go_wp2_with fail
    obtain ⟨M, hM, hM1, hM2⟩ : ∃ M : Int, IntKind.u64.wrap (IntKind.u64.wrap 18446744073709551616 - 1) = M ∧ (4294967295 : Int) ≤ M ∧ M ≤ 18446744073709551615 := ⟨_, rfl, by decide, by decide⟩
    rw [hM]
    have HM := Lib.hid hM2
    clear hM hM2
    go_loop [11, 12, 88] (fun n u i => ∃ k : Nat, k ≤ s.size ∧ i = .int .i64 k ∧ n = .int .u64 (dec (s.data.toList.take k)) ∧ u = .bool false) (fun _ _ i => s.size - (intOf i).toNat)
    case atStart => exact ⟨0, Nat.zero_le _, rfl, rfl, rfl⟩
    case round =>
      obtain ⟨k, hk, rfl, rfl, rfl⟩ := hrel
      by_cases hlt : k < s.size
      · have hcell := Lib.bytesWorld_cell w 5 s k hlt
        have hsn := take_snoc s k hlt
        have hb := HD.out.2 s[k] (mem_get hlt)
        rw [getD_at hlt] at hcell
        have hlt8 := dec_lt k (s.data.toList.take k) (by rw [List.length_take, K.bsize]; omega) (fun c hc => HD.out.2 c (List.mem_of_mem_take hc))
        have h8 : dec (s.data.toList.take k) < 100000000 := Nat.lt_of_lt_of_le hlt8 (by have : (10 : Nat) ^ k ≤ 10 ^ 8 := Nat.pow_le_pow_right (by omega) (by omega); omega)
        have hds : dec (s.data.toList.take (k + 1)) = dec (s.data.toList.take k) * 10 + (s[k].toNat - 48) := by rw [hsn, dec_snoc]
        have HN := Lib.hid hds
        clear hsn hlt8 hds
        generalize dec (s.data.toList.take k) = n at HN h8 ⊢
        generalize s[k] = c at hcell hb HN ⊢
        obtain ⟨hc1, hc2⟩ := hb
        obtain ⟨Q, hQ, hQ1⟩ : ∃ Q : Int, IntKind.u64.wrap ((IntKind.u64.wrap (M - ((c.toNat : Int) - 48))).tdiv 10) = Q ∧ 100000000 ≤ Q := by
          have hM2 := HM.out
          refine ⟨_, rfl, ?_⟩
          rw [wrap_u64 (M - ((c.toNat : Int) - 48)) (by omega) (by omega), Int.tdiv_eq_ediv_of_nonneg (by omega), wrap_u64 _ (by omega) (by omega)]
          omega
        have hn10 : (n : Int) ≤ Q := by omega
        go_wp2_with fail
        go_round
        case rel => exact ⟨k + 1, by omega, by go_num, by rw [HN.out]; go_num, rfl⟩
        case measure => simp [intOf]; omega
      · go_wp2_with fail
        go_ret2
        have hkn : s.data.toList.take k = s.data.toList := List.take_of_length_le (by rw [K.bsize]; omega)
        rw [hkn]
        exact ⟨rfl, K.bytesWorld_below w 5 s⟩
  · go_enter Tryd.func73, Tryd.ntmps73
    go_wp2_with fail
    obtain ⟨M, hM, hM1, hM2⟩ : ∃ M : Int, (4294967295 : Int) = M ∧ (4294967295 : Int) ≤ M ∧ M ≤ 18446744073709551615 := ⟨_, rfl, by decide, by decide⟩
    rw [hM]
    have HM := Lib.hid hM2
    clear hM hM2
    go_loop [11, 12, 88] (fun n u i => ∃ k : Nat, k ≤ s.size ∧ i = .int .i64 k ∧ n = .int .u64 (dec (s.data.toList.take k)) ∧ u = .bool false) (fun _ _ i => s.size - (intOf i).toNat)
    case atStart => exact ⟨0, Nat.zero_le _, rfl, rfl, rfl⟩
    case round =>
      obtain ⟨k, hk, rfl, rfl, rfl⟩ := hrel
      by_cases hlt : k < s.size
      · have hcell := Lib.bytesWorld_cell w 5 s k hlt
        have hsn := take_snoc s k hlt
        have hb := HD.out.2 s[k] (mem_get hlt)
        rw [getD_at hlt] at hcell
        have hlt8 := dec_lt k (s.data.toList.take k) (by rw [List.length_take, K.bsize]; omega) (fun c hc => HD.out.2 c (List.mem_of_mem_take hc))
        have h8 : dec (s.data.toList.take k) < 100000000 := Nat.lt_of_lt_of_le hlt8 (by have : (10 : Nat) ^ k ≤ 10 ^ 8 := Nat.pow_le_pow_right (by omega) (by omega); omega)
        have hds : dec (s.data.toList.take (k + 1)) = dec (s.data.toList.take k) * 10 + (s[k].toNat - 48) := by rw [hsn, dec_snoc]
        have HN := Lib.hid hds
        clear hsn hlt8 hds
        generalize dec (s.data.toList.take k) = n at HN h8 ⊢
        generalize s[k] = c at hcell hb HN ⊢
        obtain ⟨hc1, hc2⟩ := hb
        obtain ⟨Q, hQ, hQ1⟩ : ∃ Q : Int, IntKind.u64.wrap ((IntKind.u64.wrap (M - ((c.toNat : Int) - 48))).tdiv 10) = Q ∧ 100000000 ≤ Q := by
          have hM2 := HM.out
          refine ⟨_, rfl, ?_⟩
          rw [wrap_u64 (M - ((c.toNat : Int) - 48)) (by omega) (by omega), Int.tdiv_eq_ediv_of_nonneg (by omega), wrap_u64 _ (by omega) (by omega)]
          omega
        have hn10 : (n : Int) ≤ Q := by omega
        go_wp2_with fail
        go_round
        case rel => exact ⟨k + 1, by omega, by go_num, by rw [HN.out]; go_num, rfl⟩
        case measure => simp [intOf]; omega
      · go_wp2_with fail
        go_ret2
        have hkn : s.data.toList.take k = s.data.toList := List.take_of_length_le (by rw [K.bsize]; omega)
        rw [hkn]
        exact ⟨rfl, K.bytesWorld_below w 5 s⟩

end Go.Proofs.YtocfcajafkkhdaaDoor
end
/- Ai -/
section
namespace Go.Proofs.YtocfcajafkkhdaaDoor
open Go.RowKit
/-- a number is read -/
def IntPost (n : Nat) (w : World) (e : Ending) (w' : World) : Prop := e = .returned (.tuple #[.int .i64 n, .nilIface]) ∧ Below w.heap.size w w'
theorem Digits.first {s : ByteArray} (hd : Digits s.data.toList) : ∃ h : 0 < s.size, 48 ≤ s[0].toNat ∧ s[0].toNat ≤ 57 := by
  have h : 0 < s.size := by rw [← K.bsize]; exact List.length_pos_iff.2 hd.1
  exact ⟨h, hd.2 _ (mem_get h)⟩
theorem Digits.lt {s : ByteArray} (hs : s.size ≤ 9) (hd : Digits s.data.toList) : dec s.data.toList < 1000000000 :=
  Nat.lt_of_lt_of_le (dec_lt s.size _ (K.bsize s) hd.2) (by have : (10 : Nat) ^ s.size ≤ 10 ^ 9 := Nat.pow_le_pow_right (by omega) hs; omega)
set_option maxHeartbeats 4000000 in
set_option maxRecDepth 100000 in
theorem int_any (s : ByteArray) (b : Int) (hb : b = 0 ∨ b = 32) (w : World) (hs : s.size ≤ 9) (hd : Digits s.data.toList) : Calls Tryd.prog 63 #[.string s, .int .i64 10, .int .i64 b] w (IntPost (dec s.data.toList) w) := by
  have e1 : s.toList.isEmpty = false := by
    rw [ByteArray.toList_eq]
    exact List.isEmpty_eq_false_iff.2 hd.1
  have h73 := uint_any s b hb w hs hd
  have hlt := hd.lt hs
  obtain ⟨h0, hc1, hc2⟩ := hd.first
  have n45 : (((s[0].toNat : Nat) : Int) == 45) = false := by rw [beq_eq_false_iff_ne]; omega
  have n43 : (((s[0].toNat : Nat) : Int) == 43) = false := by rw [beq_eq_false_iff_ne]; omega
  generalize dec s.data.toList = n at h73 hlt ⊢
  clear hd
  rcases hb with rfl | rfl
  · go_enter Tryd.func63, Tryd.ntmps63
    go_wp2_with fail
    with_reducible refine h73.mono ?_
    rintro e w1 ⟨rfl, hb1⟩
    clear h73
    go_upto_region 12 with (fail)
    obtain ⟨C, hC, hC1⟩ : ∃ C : Int, (9223372036854775808 : Int) = C ∧ 1000000000 ≤ C := ⟨_, rfl, by decide⟩
    rw [hC]
    clear hC
    have hnC : (n : Int) < C := by omega
    go_wp2_with fail
    go_ret2
    exact ⟨rfl, hb1⟩
  · go_enter Tryd.func63, Tryd.ntmps63
    go_wp2_with fail
    with_reducible refine h73.mono ?_
    rintro e w1 ⟨rfl, hb1⟩
    clear h73
    go_upto_region 12 with (fail)
    obtain ⟨C, hC, hC1⟩ : ∃ C : Int, (2147483648 : Int) = C ∧ 1000000000 ≤ C := ⟨_, rfl, by decide⟩
    rw [hC]
    clear hC
    have hnC : (n : Int) < C := by omega
    go_wp2_with fail
    go_ret2
    exact ⟨rfl, hb1⟩
set_option maxRecDepth 100000 in
theorem atoi_any (s : ByteArray) (w : World) (hs : s.size ≤ 9) (hd : Digits s.data.toList) : Calls Tryd.prog 51 #[.string s] w (IntPost (dec s.data.toList) w) := by
  have h63 := int_any s 0 (.inl rfl) w hs hd
  have hlt := hd.lt hs
  generalize dec s.data.toList = n at h63 hlt ⊢
  clear hd
  go_enter Tryd.func51, Tryd.ntmps51
  go_wp2_with fail
  with_reducible refine h63.mono ?_
  rintro e w1 ⟨rfl, hb1⟩
  clear h63
  go_wp2_with fail
  go_ret2
  exact ⟨rfl, hb1⟩
set_option maxRecDepth 100000 in
theorem parse32_any (s : ByteArray) (w : World) (hs : s.size ≤ 9) (hd : Digits s.data.toList) : Calls Tryd.prog 67 #[.string s, .int .i64 10, .int .i64 32] w (IntPost (dec s.data.toList) w) := by
  have h63 := int_any s 32 (.inr rfl) w hs hd
  have hlt := hd.lt hs
  generalize dec s.data.toList = n at h63 hlt ⊢
  clear hd
  go_enter Tryd.func67, Tryd.ntmps67
  go_wp2_with fail
  with_reducible refine h63.mono ?_
  rintro e w1 ⟨rfl, hb1⟩
  clear h63
  go_wp2_with fail
  go_ret2
  exact ⟨rfl, hb1⟩
end Go.Proofs.YtocfcajafkkhdaaDoor
end
/- Ph -/
section
namespace Go.Proofs.YtocfcajafkkhdaaDoor
open Go.RowKit

/-- what a token of a destination is -/
structure Kn where
  ty : Int
  is : List Int
  arg : Int
  str : ByteArray
/-- a word as it is -/
def Kn.no : Kn := ⟨0, [-1], -1, ⟨#[]⟩⟩
/-- the wildcard n -/
def Kn.wild (n : Nat) : Kn := ⟨3, [(n : Int)], -1, ⟨#[]⟩⟩
def PhPost (k : Kn) (w : World) (e : Ending) (w' : World) : Prop :=
  ∃ g c, e = .returned (.tuple #[.int .i16 k.ty, .slice (some ⟨g, 0, none⟩) k.is.length c, .int .i32 k.arg, .string k.str, .nilIface]) ∧ Below w.heap.size w w' ∧ w.heap.size ≤ g ∧ K.Lies w' (some ⟨g, 0, none⟩) k.is.length (K.nums .i64 k.is)
theorem lies_num (w : World) (z : Int) : K.Lies (w.alloc (.cells #[.int .i64 z] 3)) (some ⟨w.heap.size, 0, none⟩) 1 (K.nums .i64 [z]) := by
  intro _
  refine ⟨_, _, rfl, by simp, fun j hj => ?_⟩
  obtain rfl : j = 0 := by omega
  rw [World.cell?_alloc_at _ _ _ _ (by simp)]; rfl
/-- a token that is no mark of a place -/
def Wordy (t : ByteArray) : Prop := t.size = 1 ∨ ∃ h : 0 < t.size, t[0] ≠ 36 ∧ t[0] ≠ 123
theorem ne_int {a b : UInt8} (h : a ≠ b) : (((a.toNat : Nat) : Int) == ((b.toNat : Nat) : Int)) = false := by
  rw [beq_eq_false_iff_ne]
  intro e
  exact h (UInt8.toNat_inj.1 (by omega))
set_option maxHeartbeats 4000000 in
set_option maxRecDepth 100000 in
theorem ph_word (t : ByteArray) (w : World) (hs : t.size ≤ 100000) (ht : Wordy t) : Calls Tryd.prog 39 #[.string t] w (PhPost Kn.no w) := by
  by_cases h1 : t.size ≤ 1
  · have h1' : ¬ (1 : Int) < (t.size : Int) := by omega
    clear ht
    go_enter Tryd.func39, Tryd.ntmps39
    go_wp2_with fail
    refine bodyPost_ret (v := .tuple #[.int .i16 0, .slice (some ⟨w.heap.size, 0, none⟩) 1 1, .int .i32 (-1), .string ⟨#[]⟩, .nilIface]) (by simp [results, Tryd.results39, go_sem]) rfl ?_
    exact ⟨_, _, rfl, (Below.refl _ _).alloc (Nat.le_refl _) _, Nat.le_refl _, lies_num w (-1)⟩
  · obtain ⟨h0, h36, h123⟩ : ∃ h : 0 < t.size, t[0] ≠ 36 ∧ t[0] ≠ 123 := by
      rcases ht with h | h
      · omega
      · exact h
    have h1' : (1 : Int) < (t.size : Int) := by omega
    have n36 : (((t[0].toNat : Nat) : Int) == 36) = false := ne_int h36
    have m36 : ¬ ((t[0].toNat : Nat) : Int) = 36 := by simpa using n36
    have n123 : (((t[0].toNat : Nat) : Int) == 123) = false := ne_int h123
    have m123 : ¬ ((t[0].toNat : Nat) : Int) = 123 := by simpa using n123
    clear h36 h123
    go_enter Tryd.func39, Tryd.ntmps39
    go_wp2_with fail
    all_goals
      refine bodyPost_ret (v := .tuple #[.int .i16 0, .slice (some ⟨w.heap.size, 0, none⟩) 1 1, .int .i32 (-1), .string ⟨#[]⟩, .nilIface]) (by simp [results, Tryd.results39, go_sem]) rfl ?_
      exact ⟨_, _, rfl, (Below.refl _ _).alloc (Nat.le_refl _) _, Nat.le_refl _, lies_num w (-1)⟩
set_option maxHeartbeats 4000000 in
set_option maxRecDepth 100000 in
theorem ph_dollar (t : ByteArray) (w : World) (hs : t.size ≤ 10) (h1 : 1 < t.size) (h36 : t[0] = 36) (hd : Digits (t.extract 1 t.size).data.toList) : Calls Tryd.prog 39 #[.string t] w (PhPost (Kn.wild (dec (t.extract 1 t.size).data.toList)) w) := by
  have h51 := atoi_any (t.extract 1 t.size) w (by rw [ByteArray.size_extract]; omega) hd
  generalize dec (t.extract 1 t.size).data.toList = n at h51 ⊢
  have e36 : ((t[0].toNat : Nat) : Int) = 36 := congrArg (fun c : UInt8 => ((c.toNat : Nat) : Int)) h36
  clear hd h36
  go_enter Tryd.func39, Tryd.ntmps39
  go_wp2_with fail
  with_reducible refine h51.mono ?_
  rintro e w1 ⟨rfl, hb1⟩
  clear h51
  go_wp2_with fail
  refine bodyPost_ret (v := .tuple #[.int .i16 3, .slice (some ⟨w1.heap.size, 0, none⟩) 1 1, .int .i32 (-1), .string ⟨#[]⟩, .nilIface]) (by simp [results, Tryd.results39, go_sem]) rfl ?_
  exact ⟨_, _, rfl, hb1.alloc hb1.size _, hb1.size, lies_num w1 n⟩
end Go.Proofs.YtocfcajafkkhdaaDoor
end
/- Mu -/
section
namespace Go.Proofs.YtocfcajafkkhdaaDoor
open Go.RowKit

/-- a token in double braces: a name and what stands in its brackets -/
structure Mu (s : ByteArray) (fn args : List UInt8) : Prop where
  eq : s.data.toList = 123 :: 123 :: (fn ++ 40 :: (args ++ [41, 125, 125]))
  hfn : ∀ x ∈ fn, (97 ≤ x.toNat ∧ x.toNat ≤ 122) ∨ (65 ≤ x.toNat ∧ x.toNat ≤ 90)
  ne : fn ≠ []
  hargs : ∀ x ∈ args, 33 ≤ x.toNat ∧ x.toNat ≠ 123 ∧ x.toNat ≠ 41 ∧ x.toNat < 128 ∧ x.toNat ≠ 46
  len : s.size ≤ 1000
theorem Mu.size {s : ByteArray} {fn args : List UInt8} (h : Mu s fn args) : s.size = fn.length + args.length + 6 := by
  rw [← K.bsize, h.eq]
  simp
  omega
theorem at_list {s : ByteArray} {l : List UInt8} (h : s.data.toList = l) {k : Nat} {c : UInt8} (hk : l[k]? = some c) : ∃ h0 : k < s.size, s[k] = c := by
  have h0 : k < s.size := by
    rw [← K.bsize, h]
    exact (List.getElem?_eq_some_iff.1 hk).1
  refine ⟨h0, ?_⟩
  have := get_at h0
  rw [h, hk] at this
  simpa using this.symm
theorem Mu.b0 {s : ByteArray} {fn args : List UInt8} (h : Mu s fn args) : ∃ h0 : 0 < s.size, s[0] = 123 := at_list h.eq rfl
theorem Mu.b1 {s : ByteArray} {fn args : List UInt8} (h : Mu s fn args) : ∃ h0 : 1 < s.size, s[1] = 123 := at_list h.eq rfl
theorem Mu.bf {s : ByteArray} {fn args : List UInt8} (h : Mu s fn args) {i : Nat} (hi : i < fn.length) : ∃ h0 : 2 + i < s.size, s[2 + i] = fn[i] := at_list h.eq (by
  rw [show 2 + i = i + 1 + 1 from by omega, List.getElem?_cons_succ, List.getElem?_cons_succ, List.getElem?_append_left hi, List.getElem?_eq_getElem hi])
theorem Mu.bo {s : ByteArray} {fn args : List UInt8} (h : Mu s fn args) : ∃ h0 : 2 + fn.length < s.size, s[2 + fn.length] = 40 := at_list h.eq (by
  rw [show 2 + fn.length = fn.length + 1 + 1 from by omega, List.getElem?_cons_succ, List.getElem?_cons_succ, List.getElem?_append_right (Nat.le_refl _), Nat.sub_self]; rfl)
theorem Mu.ba {s : ByteArray} {fn args : List UInt8} (h : Mu s fn args) {i : Nat} (hi : i < args.length) : ∃ h0 : 3 + fn.length + i < s.size, s[3 + fn.length + i] = args[i] := at_list h.eq (by
  rw [show 3 + fn.length + i = fn.length + (i + 1) + 1 + 1 from by omega, List.getElem?_cons_succ, List.getElem?_cons_succ, List.getElem?_append_right (by omega), Nat.add_sub_cancel_left, List.getElem?_cons_succ, List.getElem?_append_left hi, List.getElem?_eq_getElem hi])
theorem Mu.bz {s : ByteArray} {fn args : List UInt8} (h : Mu s fn args) (j : Nat) (hj : j < 3) : ∃ h0 : 3 + fn.length + args.length + j < s.size, s[3 + fn.length + args.length + j] = ([41, 125, 125] : List UInt8)[j]'hj := at_list h.eq (by
  rw [show 3 + fn.length + args.length + j = fn.length + (args.length + j + 1) + 1 + 1 from by omega, List.getElem?_cons_succ, List.getElem?_cons_succ, List.getElem?_append_right (by omega), Nat.add_sub_cancel_left, List.getElem?_cons_succ, List.getElem?_append_right (by omega), Nat.add_sub_cancel_left, List.getElem?_eq_getElem hj])
/-- no byte behind the first two is an opening brace -/
theorem Mu.no123 {s : ByteArray} {fn args : List UInt8} (h : Mu s fn args) (k : Nat) (hk : k < s.size) (h2 : 2 ≤ k) : s[k] ≠ 123 := by
  have hsz := h.size
  rcases Nat.lt_or_ge k (2 + fn.length) with h3 | h3
  · obtain ⟨_, e⟩ := h.bf (i := k - 2) (by omega)
    have e2 : s[k] = fn[k - 2] := by rw [← e]; congr 1; omega
    rw [e2]
    intro e3
    have := h.hfn _ (List.getElem_mem (show k - 2 < fn.length by omega))
    rw [e3] at this
    revert this; decide
  · rcases Nat.lt_or_ge k (3 + fn.length) with h4 | h4
    · obtain ⟨_, e⟩ := h.bo
      have e2 : s[k] = 40 := by rw [← e]; congr 1; omega
      rw [e2]; decide
    · rcases Nat.lt_or_ge k (3 + fn.length + args.length) with h5 | h5
      · obtain ⟨_, e⟩ := h.ba (i := k - (3 + fn.length)) (by omega)
        have e2 : s[k] = args[k - (3 + fn.length)] := by rw [← e]; congr 1; omega
        rw [e2]
        intro e3
        have := (h.hargs _ (List.getElem_mem (show k - (3 + fn.length) < args.length by omega))).2.1
        rw [e3] at this
        exact this rfl
      · obtain ⟨j, rfl⟩ : ∃ j, k = 3 + fn.length + args.length + j := ⟨k - (3 + fn.length + args.length), by omega⟩
        have hj : j < 3 := by omega
        obtain ⟨_, e⟩ := h.bz j hj
        rw [e]
        match j, hj with
        | 0, _ => exact (by decide : (41 : UInt8) ≠ 123)
        | 1, _ => exact (by decide : (125 : UInt8) ≠ 123)
        | 2, _ => exact (by decide : (125 : UInt8) ≠ 123)
theorem Mu.no10 {s : ByteArray} {fn args : List UInt8} (h : Mu s fn args) (k : Nat) (hk : k < s.size) : 33 ≤ s[k].toNat := by
  have hsz := h.size
  rcases Nat.lt_or_ge k 2 with h2 | h2
  · obtain ⟨_, e0⟩ := h.b0
    obtain ⟨_, e1⟩ := h.b1
    match k, h2 with
    | 0, _ => rw [e0]; decide
    | 1, _ => rw [e1]; decide
  rcases Nat.lt_or_ge k (2 + fn.length) with h3 | h3
  · obtain ⟨_, e⟩ := h.bf (i := k - 2) (by omega)
    have e2 : s[k] = fn[k - 2] := by rw [← e]; congr 1; omega
    rw [e2]
    have := h.hfn _ (List.getElem_mem (show k - 2 < fn.length by omega))
    omega
  · rcases Nat.lt_or_ge k (3 + fn.length) with h4 | h4
    · obtain ⟨_, e⟩ := h.bo
      have e2 : s[k] = 40 := by rw [← e]; congr 1; omega
      rw [e2]; decide
    · rcases Nat.lt_or_ge k (3 + fn.length + args.length) with h5 | h5
      · obtain ⟨_, e⟩ := h.ba (i := k - (3 + fn.length)) (by omega)
        have e2 : s[k] = args[k - (3 + fn.length)] := by rw [← e]; congr 1; omega
        rw [e2]
        exact (h.hargs _ (List.getElem_mem (show k - (3 + fn.length) < args.length by omega))).1
      · obtain ⟨j, rfl⟩ : ∃ j, k = 3 + fn.length + args.length + j := ⟨k - (3 + fn.length + args.length), by omega⟩
        have hj : j < 3 := by omega
        obtain ⟨_, e⟩ := h.bz j hj
        rw [e]
        match j, hj with
        | 0, _ => exact (by decide : 33 ≤ (41 : UInt8).toNat)
        | 1, _ => exact (by decide : 33 ≤ (125 : UInt8).toNat)
        | 2, _ => exact (by decide : 33 ≤ (125 : UInt8).toNat)

def IntIs (z : Int) (w : World) (e : Ending) (w' : World) : Prop := e = .returned (.int .i64 z) ∧ w = w'
def BoolIs (b : Bool) (w : World) (e : Ending) (w' : World) : Prop := e = .returned (.bool b) ∧ w = w'
set_option maxRecDepth 100000 in
theorem white_no (c : UInt8) (w : World) (h : 33 ≤ c.toNat) : Calls Tryd.prog 72 #[.int .u8 c.toNat] w (BoolIs false w) := by
  have b1 : (((c.toNat : Nat) : Int) == 32) = false := by rw [beq_eq_false_iff_ne]; omega
  have b2 : (((c.toNat : Nat) : Int) == 9) = false := by rw [beq_eq_false_iff_ne]; omega
  have b3 : (((c.toNat : Nat) : Int) == 10) = false := by rw [beq_eq_false_iff_ne]; omega
  have b4 : (((c.toNat : Nat) : Int) == 12) = false := by rw [beq_eq_false_iff_ne]; omega
  have b5 : (((c.toNat : Nat) : Int) == 13) = false := by rw [beq_eq_false_iff_ne]; omega
  go_enter Tryd.func72, Tryd.ntmps72
  go_wp2_with fail
  go_ret
  exact ⟨rfl, rfl⟩
set_option maxRecDepth 100000 in
theorem skip_no (s : ByteArray) (i : Nat) (w : World) (hi : i ≤ s.size) (h : ∀ h0 : i < s.size, 33 ≤ s[i].toNat) : Calls Tryd.prog 62 #[.string s, .int .i64 i] w (IntIs i w) := by
  rcases Nat.lt_or_ge i s.size with h0 | h0
  · have h72 := white_no s[i] w (h h0)
    clear h
    go_enter Tryd.func62, Tryd.ntmps62
    go_wp2_with fail
    go_loop [1] (fun v => v = .int .i64 i) (fun _ => 0)
    case atStart => rfl
    case round =>
      subst hrel
      go_wp2_with fail
      refine h72.mono ?_
      rintro e w1 ⟨rfl, rfl⟩
      go_wp2_with fail
      go_ret
      exact ⟨rfl, rfl⟩
  · have h1 : ¬ (i : Int) < (s.size : Int) := by omega
    clear h
    go_enter Tryd.func62, Tryd.ntmps62
    go_wp2_with fail
    go_loop [1] (fun v => v = .int .i64 i) (fun _ => 0)
    case atStart => rfl
    case round =>
      subst hrel
      go_wp2_with fail
      go_ret
      exact ⟨rfl, rfl⟩
/-- a function's name stands at a place, great letters as they are or small -/
def Nm (s name : ByteArray) (i : Nat) : Prop := i + name.size ≤ s.size ∧ ∀ k (h : k < name.size) (h2 : i + k < s.size), s[i + k] = name[k] ∨ (65 ≤ name[k].toNat ∧ name[k].toNat ≤ 90 ∧ s[i + k].toNat = name[k].toNat + 32)
set_option maxHeartbeats 4000000 in
set_option maxRecDepth 100000 in
theorem named_yes (s name : ByteArray) (i : Nat) (w : World) (hs : s.size ≤ 100000) (hi : i ≤ s.size) (hN : Nm s name i) : Calls Tryd.prog 61 #[.string s, .int .i64 i, .string name] w (IntIs ((i : Int) + (name.size : Int)) w) := by
  have hl := hN.1
  have HN := Lib.hid hN.2
  have b0 : ¬ (s.size : Int) < (i : Int) + (name.size : Int) := by omega
  clear hN
  go_enter Tryd.func61, Tryd.ntmps61
  go_wp2_with fail
  go_loop [7] (fun v => ∃ k : Nat, k ≤ name.size ∧ v = .int .i64 k) (fun v => name.size - (intOf v).toNat)
  case atStart => exact ⟨0, by omega, rfl⟩
  case round =>
    obtain ⟨k, hk, rfl⟩ := hrel
    by_cases hlt : k < name.size
    · have hik : i + k < s.size := by omega
      have q0 : (0 : Int) ≤ (i : Int) + (k : Int) := by omega
      have q1 : (i : Int) + (k : Int) < (s.size : Int) := by omega
      have q2 : ((i : Int) + (k : Int)).toNat = i + k := by omega
      rcases HN.out k hlt hik with he | ⟨h1, h2, h3⟩
      · have HE := Lib.hid he
        generalize hc : s[i + k] = c at he
        have HC := Lib.hid hc
        go_wp2_with fail
        go_round
        case rel => exact ⟨k + 1, by omega, by go_num⟩
        case measure => simp [intOf]; omega
      · have h3' : ((s[i + k].toNat : Nat) : Int) = ((name[k].toNat : Nat) : Int) + 32 := by omega
        have h1' : (65 : Int) ≤ ((name[k].toNat : Nat) : Int) := by omega
        have h2' : ((name[k].toNat : Nat) : Int) ≤ 90 := by omega
        clear h1 h2 h3
        go_wp2_with fail
        go_round
        case rel => exact ⟨k + 1, by omega, by go_num⟩
        case measure => simp [intOf]; omega
    · go_wp2_with fail
      go_ret
      exact ⟨rfl, rfl⟩
/-- one byte of a name -/
def Ch (c n : UInt8) : Prop := c = n ∨ (65 ≤ n.toNat ∧ n.toNat ≤ 90 ∧ c.toNat = n.toNat + 32)
set_option maxHeartbeats 4000000 in
set_option maxRecDepth 100000 in
theorem named_no (s name : ByteArray) (i : Nat) (w : World) (hs : s.size ≤ 100000) (hn : name.size ≤ 1000) (hi : i ≤ s.size) (hN : ¬ Nm s name i) : Calls Tryd.prog 61 #[.string s, .int .i64 i, .string name] w (IntIs (-1) w) := by
  by_cases hl : i + name.size ≤ s.size
  · have b0 : ¬ (s.size : Int) < (i : Int) + (name.size : Int) := by omega
    have HN := Lib.hid hN
    clear hN
    go_enter Tryd.func61, Tryd.ntmps61
    go_wp2_with fail
    go_loop [7] (fun v => ∃ k : Nat, k ≤ name.size ∧ v = .int .i64 k ∧ Hid (∀ j (h : j < name.size) (h2 : i + j < s.size), j < k → Ch s[i + j] name[j])) (fun v => name.size - (intOf v).toNat)
    case atStart => exact ⟨0, by omega, rfl, Lib.hid (fun j h h2 h3 => by omega)⟩
    case round =>
      obtain ⟨k, hk, rfl, HM⟩ := hrel
      by_cases hlt : k < name.size
      · have hik : i + k < s.size := by omega
        have q0 : (0 : Int) ≤ (i : Int) + (k : Int) := by omega
        have q1 : (i : Int) + (k : Int) < (s.size : Int) := by omega
        have q2 : ((i : Int) + (k : Int)).toNat = i + k := by omega
        by_cases hch : Ch s[i + k] name[k]
        · have HM2 := Lib.hid (show ∀ j (h : j < name.size) (h2 : i + j < s.size), j < k + 1 → Ch s[i + j] name[j] from fun j h h2 h3 => by
            rcases Nat.lt_or_ge j k with h4 | h4
            · exact HM.out j h h2 h4
            · obtain rfl : j = k := by omega
              exact hch)
          rcases hch with he | ⟨h1, h2, h3⟩
          · go_wp2_with fail
            go_round
            case rel => exact ⟨k + 1, by omega, by go_num, HM2⟩
            case measure => simp [intOf]; omega
          · have h3' : ((s[i + k].toNat : Nat) : Int) = ((name[k].toNat : Nat) : Int) + 32 := by omega
            have h1' : (65 : Int) ≤ ((name[k].toNat : Nat) : Int) := by omega
            have h2' : ((name[k].toNat : Nat) : Int) ≤ 90 := by omega
            clear h1 h2 h3
            go_wp2_with fail
            go_round
            case rel => exact ⟨k + 1, by omega, by go_num, HM2⟩
            case measure => simp [intOf]; omega
        · have hne : s[i + k] ≠ name[k] := fun e => hch (.inl e)
          have hne2 : ¬ (65 ≤ name[k].toNat ∧ name[k].toNat ≤ 90 ∧ s[i + k].toNat = name[k].toNat + 32) := fun e => hch (.inr e)
          have b1 : (((s[i + k].toNat : Nat) : Int) == ((name[k].toNat : Nat) : Int)) = false := ne_int hne
          have b2 : ¬ ((s[i + k].toNat : Nat) : Int) = ((name[k].toNat : Nat) : Int) := by simpa using b1
          have b3 : (((s[i + k].toNat : Nat) : Int) != ((name[k].toNat : Nat) : Int)) = true := by simpa using b1
          clear hch hne
          have hcl := s[i + k].toNat_lt
          have hnl := name[k].toNat_lt
          by_cases h65 : 65 ≤ name[k].toNat ∧ name[k].toNat ≤ 90
          · have h1' : (65 : Int) ≤ ((name[k].toNat : Nat) : Int) := by omega
            have h2' : ((name[k].toNat : Nat) : Int) ≤ 90 := by omega
            have h3' : (((s[i + k].toNat : Nat) : Int) == ((name[k].toNat : Nat) : Int) + 32) = false := by rw [beq_eq_false_iff_ne]; omega
            clear h65 hne2
            go_wp2_with fail
            go_ret
            exact ⟨rfl, rfl⟩
          · rcases (show name[k].toNat < 65 ∨ 90 < name[k].toNat by omega) with h6 | h6
            · have h1' : ((name[k].toNat : Nat) : Int) < 65 := by omega
              clear h65 hne2
              go_wp2_with fail
              go_ret
              exact ⟨rfl, rfl⟩
            · have h1' : (90 : Int) < ((name[k].toNat : Nat) : Int) := by omega
              have h2' : (65 : Int) ≤ ((name[k].toNat : Nat) : Int) := by omega
              clear h65 hne2
              go_wp2_with fail
              go_ret
              exact ⟨rfl, rfl⟩
      · exfalso
        apply HN.out
        exact ⟨hl, fun j h h2 => HM.out j h h2 (by omega)⟩
  · have b0 : (s.size : Int) < (i : Int) + (name.size : Int) := by omega
    clear hN hl
    go_enter Tryd.func61, Tryd.ntmps61
    go_wp2_with fail
    go_ret
    exact ⟨rfl, rfl⟩
end Go.Proofs.YtocfcajafkkhdaaDoor
end
/- Fa -/
section
namespace Go.Proofs.YtocfcajafkkhdaaDoor
open Go.RowKit

theorem ext2 (s : ByteArray) (k : Nat) (h : k + 1 < s.size) : (s.extract k (k + 2)).toList = [s[k], s[k + 1]] := by
  rw [ByteArray.toList_eq, Lib.extract_data, show k + 2 - k = 2 from by omega, K.drop_at s k (by omega), K.drop_at s (k + 1) h]
  rfl
def FaPost (v : ByteArray) (b : Bool) (w : World) (e : Ending) (w' : World) : Prop := e = .returned (.tuple #[.string v, .bool b]) ∧ w = w'
set_option maxHeartbeats 8000000 in
set_option maxRecDepth 100000 in
theorem fa_yes (s name : ByteArray) (fn args : List UInt8) (w : World) (h : Mu s fn args) (hn : name.size = fn.length) (hN : Nm s name 2) : Calls Tryd.prog 49 #[.string name, .string s] w (FaPost ⟨args.toArray⟩ true w) := by
  obtain ⟨a, ha⟩ : ∃ a, a = 2 + fn.length := ⟨_, rfl⟩
  obtain ⟨z, hz⟩ : ∃ z, z = 3 + fn.length + args.length := ⟨_, rfl⟩
  have hsz := h.size
  have hl := h.len
  have hnz : s.size = z + 3 := by omega
  have haz : a < z := by omega
  have hbr : (s.extract 0 2).toList = [123, 123] := by
    obtain ⟨_, e0⟩ := h.b0
    obtain ⟨_, e1⟩ := h.b1
    have := ext2 s 0 (by omega)
    rw [this, e0]
    rw [show s[0 + 1] = s[1] from rfl, e1]
  have hbr2 : ((s.extract 0 2).toList == [123, 123]) = true := by rw [hbr]; rfl
  have hskip2 := skip_no s 2 w (by omega) (fun h0 => h.no10 2 h0)
  have hskipa := skip_no s a w (by omega) (fun h0 => h.no10 a h0)
  have hskipz := skip_no s (z + 1) w (by omega) (fun h0 => h.no10 (z + 1) h0)
  have hnm := named_yes s name 2 w (by omega) (by omega) hN
  rw [show ((2 : Nat) : Int) + (name.size : Int) = (a : Int) from by omega] at hnm
  rw [show ((2 : Nat) : Int) = 2 from rfl] at hskip2 hnm
  have ea : ∃ h0 : a < s.size, s[a] = 40 := by
    subst ha
    exact h.bo
  obtain ⟨la, ea⟩ := ea
  have ea2 : ((s[a].toNat : Nat) : Int) = 40 := congrArg (fun c : UInt8 => ((c.toNat : Nat) : Int)) ea
  have HH := Lib.hid h
  have HNZ := Lib.hid hnz
  have hout : (s.extract (a + 1) z) = ⟨args.toArray⟩ := by
    apply ByteArray.ext
    apply Array.ext'
    rw [Lib.extract_data, h.eq]
    have e1 : (123 :: 123 :: (fn ++ 40 :: (args ++ [41, 125, 125]))).drop (a + 1) = args ++ [41, 125, 125] := by
      rw [show (123 :: 123 :: (fn ++ 40 :: (args ++ [41, 125, 125]))) = (123 :: 123 :: fn ++ [40]) ++ (args ++ [41, 125, 125]) from by simp]
      rw [List.drop_append_of_le_length (by simp; omega), List.drop_of_length_le (by simp; omega)]
      rfl
    rw [e1, show z - (a + 1) = args.length from by omega, List.take_append_of_le_length (Nat.le_refl _), List.take_length]
  have hend : ((s.extract (z + 1) (z + 3)).toList == [125, 125]) = true := by
    obtain ⟨_, e1⟩ := h.bz 1 (by omega)
    obtain ⟨_, e2⟩ := h.bz 2 (by omega)
    rw [show z + 3 = z + 1 + 2 from rfl, ext2 s (z + 1) (by omega)]
    have f1 : s[z + 1] = 125 := by rw [show (125 : UInt8) = ([41, 125, 125] : List UInt8)[1] from rfl, ← e1]; congr 1; omega
    have f2 : s[z + 1 + 1] = 125 := by rw [show (125 : UInt8) = ([41, 125, 125] : List UInt8)[2] from rfl, ← e2]; congr 1; omega
    rw [f1, f2]
    rfl
  have HO := Lib.hid hout
  have b0 : (2 : Int) ≤ (s.size : Int) := by omega
  have b1 : (a : Int) < (s.size : Int) := by omega
  have b2 : (0 : Int) ≤ (a : Int) := by omega
  clear h hn hN hbr ha ea hsz hout hnz
  go_enter Tryd.func49, Tryd.ntmps49
  go_wp2_with fail
  go_loop [6] (fun v => v = .int .i64 0) (fun _ => 0)
  case atStart => rfl
  case round =>
    subst hrel
    go_wp2_with fail
    with_reducible refine hskip2.mono ?_
    rintro e w1 ⟨rfl, rfl⟩
    clear hskip2
    go_wp2_with fail
    with_reducible refine hnm.mono ?_
    rintro e w1 ⟨rfl, rfl⟩
    clear hnm
    go_wp2_with fail
    with_reducible refine hskipa.mono ?_
    rintro e w1 ⟨rfl, rfl⟩
    clear hskipa
    go_wp2_with fail
    go_loop [8] (fun v => ∃ k : Nat, a < k ∧ k ≤ s.size ∧ v = .int .i64 k) (fun v => s.size - (intOf v).toNat)
    case atStart => exact ⟨a + 1, by omega, by omega, by go_num⟩
    case round =>
      obtain ⟨k, hk0, hk, rfl⟩ := hrel
      by_cases hlt : k < s.size
      · have b3 : (((s[k].toNat : Nat) : Int) == 10) = false := by
          have := HH.out.no10 k hlt
          rw [beq_eq_false_iff_ne]; omega
        go_wp2_with fail
        go_round
        case rel => exact ⟨k + 1, by omega, by omega, by go_num⟩
        case measure => simp [intOf]; omega
      · obtain rfl : k = s.size := by omega
        go_wp2_with fail
        go_loop [9] (fun v => ∃ k : Nat, z ≤ k ∧ k ≤ z + 2 ∧ v = .int .i64 k) (fun v => (intOf v).toNat)
        case atStart => 
          have := HNZ.out
          exact ⟨z + 2, by omega, by omega, by go_num⟩
        case round =>
          obtain ⟨k, hk0, hk, rfl⟩ := hrel
          have hnz := HNZ.out
          have hkn : k < s.size := by omega
          have hka : a < k := by omega
          by_cases hkz : k = z
          · subst hkz
            have e41 : ((s[k].toNat : Nat) : Int) = 41 := by
              obtain ⟨_, e1⟩ := HH.out.bz 0 (by omega)
              have f1 : s[k] = 41 := by rw [show (41 : UInt8) = ([41, 125, 125] : List UInt8)[0] from rfl, ← e1]; congr 1
              rw [f1]; rfl
            have b5 : (k : Int) + 1 + 2 ≤ (s.size : Int) := by omega
            have b6 : ((k : Int) + 1 + 2).toNat = k + 3 := by omega
            have b7 : ((k : Int) + 1).toNat = k + 1 := by omega
            have b8 : ((a : Int) + 1).toNat = a + 1 := by omega
            have c0 : (0 : Int) ≤ (k : Int) + 1 := by omega
            have c1 : (k : Int) + 1 ≤ (k : Int) + 1 + 2 := by omega
            have c2 : (0 : Int) ≤ (a : Int) + 1 := by omega
            have c3 : (a : Int) + 1 ≤ (k : Int) := by omega
            have c4 : (k : Int) ≤ (s.size : Int) := by omega
            clear hz hnz
            rw [show ((k + 1 : Nat) : Int) = (k : Int) + 1 from by omega] at hskipz
            go_wp2_with fail
            with_reducible refine hskipz.mono ?_
            rintro e w1 ⟨rfl, rfl⟩
            clear hskipz
            go_wp2_with fail
            refine bodyPost_ret (v := .tuple #[.string (s.extract (a + 1) k), .bool true]) (by simp [results, Tryd.results49, go_sem]) rfl ?_
            exact ⟨by rw [HO.out], rfl⟩
          · obtain ⟨j, rfl⟩ : ∃ j, k = j + 1 := ⟨k - 1, by omega⟩
            have e41 : (((s[j + 1].toNat : Nat) : Int) == 41) = false := by
              have h125 : s[j + 1] = 125 := by
                rcases (show j = z ∨ j = z + 1 by omega) with h5 | h5
                · obtain ⟨_, e1⟩ := HH.out.bz 1 (by omega)
                  rw [show (125 : UInt8) = ([41, 125, 125] : List UInt8)[1] from rfl, ← e1]; congr 1; omega
                · obtain ⟨_, e1⟩ := HH.out.bz 2 (by omega)
                  rw [show (125 : UInt8) = ([41, 125, 125] : List UInt8)[2] from rfl, ← e1]; congr 1; omega
              rw [h125]; rfl
            clear hz hnz
            go_wp2_with fail
            go_round
            case rel => exact ⟨j, by omega, by omega, by go_num⟩
            case measure => simp [intOf]
/-- the name doesn't stand there, or a letter stands behind it -/
def Not2 (s name : ByteArray) (fn : List UInt8) : Prop := ¬ Nm s name 2 ∨ (Nm s name 2 ∧ name.size < fn.length)
set_option maxHeartbeats 8000000 in
set_option maxRecDepth 100000 in
theorem fa_no (s name : ByteArray) (fn args : List UInt8) (w : World) (h : Mu s fn args) (hn : name.size ≤ 100) (hN : Not2 s name fn) : Calls Tryd.prog 49 #[.string name, .string s] w (FaPost ⟨#[]⟩ false w) := by
  have hl := h.len
  have hsz := h.size
  have h4 : 6 ≤ s.size := by omega
  have hbr2 : ((s.extract 0 2).toList == [123, 123]) = true := by
    obtain ⟨_, e0⟩ := h.b0
    obtain ⟨_, e1⟩ := h.b1
    have := ext2 s 0 (by omega)
    rw [this, e0]
    rw [show s[0 + 1] = s[1] from rfl, e1]
    rfl
  have hbr : ∀ i, 1 ≤ i → i + 2 ≤ s.size → ((s.extract i (i + 2)).toList == [123, 123]) = false := by
    intro i h1 h2
    rw [ext2 s i (by omega), beq_eq_false_iff_ne]
    intro e
    have := h.no123 (i + 1) (by omega) (by omega)
    injection e with e1 e2
    injection e2 with e3 e4
    exact this e3
  have hskip2 := skip_no s 2 w (by omega) (fun h0 => h.no10 2 h0)
  rw [show ((2 : Nat) : Int) = 2 from rfl] at hskip2
  have HB := Lib.hid hbr
  have HH := Lib.hid h
  clear hbr hsz
  have b0 : (2 : Int) ≤ (s.size : Int) := by omega
  go_enter Tryd.func49, Tryd.ntmps49
  go_wp2_with fail
  go_loop [6] (fun u => ∃ i : Nat, i ≤ s.size ∧ u = .int .i64 i) (fun u => s.size - (intOf u).toNat)
  case atStart => exact ⟨0, by omega, rfl⟩
  case round =>
    obtain ⟨i, hi, rfl⟩ := hrel
    by_cases hlt : i + 2 ≤ s.size
    · rcases Nat.eq_zero_or_pos i with rfl | hi1
      · rcases hN with hN | ⟨hN, hlen⟩
        · have hnm := named_no s name 2 w (by omega) (by omega) (by omega) hN
          rw [show ((2 : Nat) : Int) = 2 from rfl] at hnm
          clear hN hlt
          go_wp2_with fail
          with_reducible refine hskip2.mono ?_
          rintro e w1 ⟨rfl, rfl⟩
          clear hskip2
          go_wp2_with fail
          with_reducible refine hnm.mono ?_
          rintro e w1 ⟨rfl, rfl⟩
          clear hnm
          go_wp2_with fail
          go_round
          case rel => exact ⟨1, by omega, by go_num⟩
          case measure => simp [intOf]; omega
        · have hnm := named_yes s name 2 w (by omega) (by omega) hN
          obtain ⟨a, ha⟩ : ∃ a, a = 2 + name.size := ⟨_, rfl⟩
          have hal : a < s.size := by have := h.size; omega
          have hskipa := skip_no s a w (by omega) (fun h0 => h.no10 a h0)
          rw [show ((2 : Nat) : Int) + (name.size : Int) = (a : Int) from by omega] at hnm
          rw [show ((2 : Nat) : Int) = 2 from rfl] at hnm
          have e40 : (((s[a].toNat : Nat) : Int) == 40) = false := by
            obtain ⟨_, e1⟩ := h.bf (i := name.size) hlen
            have e2 : s[a] = fn[name.size] := by rw [← e1]; congr 1
            have := h.hfn _ (List.getElem_mem hlen)
            rw [e2, beq_eq_false_iff_ne]
            omega
          have e41 : (((s[a].toNat : Nat) : Int) != 40) = true := by rw [bne, e40]; rfl
          have b1 : (a : Int) < (s.size : Int) := by omega
          clear e40 hN hlt h ha hlen hn
          go_wp2_with fail
          with_reducible refine hskip2.mono ?_
          rintro e w1 ⟨rfl, rfl⟩
          clear hskip2
          go_wp2_with fail
          with_reducible refine hnm.mono ?_
          rintro e w1 ⟨rfl, rfl⟩
          clear hnm
          go_wp2_with fail
          with_reducible refine hskipa.mono ?_
          rintro e w1 ⟨rfl, rfl⟩
          clear hskipa
          go_wp2_with fail
          go_round
          case rel => exact ⟨1, by omega, by go_num⟩
          case measure => simp [intOf]; omega
      · have hb := HB.out i hi1 hlt
        have c0 : (i : Int) + 2 ≤ (s.size : Int) := by omega
        have c1 : ((i : Int) + 2).toNat = i + 2 := by omega
        have c2 : (i : Int) ≤ (i : Int) + 2 := by omega
        clear hskip2 hN
        go_wp2_with fail
        go_round
        case rel => exact ⟨i + 1, by omega, by go_num⟩
        case measure => simp [intOf]; omega
    · have c0 : (s.size : Int) < (i : Int) + 2 := by omega
      clear hskip2 hN
      go_wp2_with fail
      refine bodyPost_ret (v := .tuple #[.string ⟨#[]⟩, .bool false]) (by simp [results, Tryd.results49, go_sem]) rfl ?_
      exact ⟨rfl, rfl⟩
end Go.Proofs.YtocfcajafkkhdaaDoor
end
/- Sa -/
section
namespace Go.Proofs.YtocfcajafkkhdaaDoor
open Go.RowKit

theorem tail_at (s : ByteArray) (f j : Nat) (hj : f + j < s.size) : (s.extract f s.size).data.toList[j]? = some s[f + j] := by
  rw [ext_data, List.take_of_length_le (by rw [List.length_drop, K.bsize]; omega), List.getElem?_drop]
  exact get_at hj
theorem tail_data (s : ByteArray) (f : Nat) : (s.extract f s.size).data.toList = s.data.toList.drop f := by
  rw [ext_data, List.take_of_length_le (by rw [List.length_drop, K.bsize]; omega)]
/-- no comma stands between two places -/
def NoC (s : ByteArray) (f i : Nat) : Prop := ∀ j (h : j < s.size), f ≤ j → j < i → s[j] ≠ 44
theorem NoC.more {s : ByteArray} {f i : Nat} (h : NoC s f i) (hi : i < s.size) (hc : s[i] ≠ 44) : NoC s f (i + 1) := by
  intro j h1 h2 h3
  rcases Nat.lt_or_ge j i with h4 | h4
  · exact h j h1 h2 h4
  · obtain rfl : j = i := by omega
    exact hc
theorem NoC.cut {s : ByteArray} {f i : Nat} (h : NoC s f i) (hf : f ≤ i) (hi : i < s.size) (hc : s[i] = 44) : sp 44 (s.extract f s.size).data.toList = (s.extract f i).data.toList :: sp 44 (s.extract (i + 1) s.size).data.toList := by
  have h1 : (s.extract f s.size).data.toList[i - f]? = some 44 := by
    rw [tail_at s f (i - f) (by omega), ← hc]
    congr 2
    omega
  rw [sp_first 44 _ (i - f) h1 (by
    intro j hj he
    rw [tail_at s f j (by omega)] at he
    exact h (f + j) (by omega) (by omega) (by omega) (Option.some.inj he))]
  rw [tail_data, tail_data, List.drop_drop, ext_data]
  congr 3
  omega
theorem NoC.end_ {s : ByteArray} {f : Nat} (h : NoC s f s.size) : sp 44 (s.extract f s.size).data.toList = [(s.extract f s.size).data.toList] := by
  apply sp_none
  intro j he
  rcases Nat.lt_or_ge (f + j) s.size with h1 | h1
  · rw [tail_at s f j h1] at he
    exact h (f + j) h1 (by omega) (by omega) (Option.some.inj he)
  · rw [tail_data, List.getElem?_drop, List.getElem?_eq_none (by rw [K.bsize]; exact h1)] at he
    cases he
theorem ext_all (s : ByteArray) : s.extract 0 s.size = s := by
  apply ByteArray.ext
  apply Array.ext'
  rw [tail_data]
  rfl
set_option maxHeartbeats 1000000 in
set_option maxRecDepth 100000 in
theorem args_any (s : ByteArray) (w : World) (hs : s.size ≤ 100000) (hW : ∀ k (h : k < s.size), 33 ≤ s[k].toNat) : Calls Tryd.prog 64 #[.string s] w (SplitPost 44 s w) := by
  have HW := Lib.hid hW
  clear hW
  go_enter Tryd.func64, Tryd.ntmps64
  go_wp2_with fail
  go_loopg [3, 4, 5] (s.size) (fun gk v fv iv wr => ∃ (k f i : Nat), gk = s.size - i ∧ f ≤ i ∧ i ≤ s.size ∧ k ≤ f ∧ fv = .int .i64 f ∧ iv = .int .i64 i ∧ Hid (NoC s f i) ∧ Hid (SpRel 44 s w k v (s.extract f s.size) wr))
  case atStart => exact ⟨0, 0, 0, by omega, by omega, by omega, by omega, rfl, rfl, Lib.hid (fun j _ h1 h2 => by omega), Lib.hid (by rw [ext_all]; exact SpRel.start 44 s w)⟩
  case round =>
    obtain ⟨k, f, i, hg, hf, hi, hkf, rfl, rfl, HC, H⟩ := hrel
    by_cases hlt : i < s.size
    · by_cases hc : s[i] = 44
      · have b1 : (((s[i].toNat : Nat) : Int) == 44) = true := by rw [hc]; rfl
        have b2 : ((i : Int) + 1).toNat = i + 1 := by omega
        have hsk := fun w => skip_no s (i + 1) w (by omega) (fun h0 => HW.out (i + 1) h0)
        rw [show ((i + 1 : Nat) : Int) = (i : Int) + 1 from by omega] at hsk
        have HCut := Lib.hid (HC.out.cut hf hlt hc)
        obtain ⟨ds, h1, h2, h3, h4, h5⟩ := H.out
        have H1 := Lib.hid h1
        have H2 := Lib.hid h2
        have H4 := Lib.hid h4
        clear h1 h2 h4 H HC hc h3
        have hsz := h5.size
        go_wp2_with (at_builtin; refine wpList_app_str rfl (.tmp 16) (.tmp 21) rfl w.heap.size _ _ _ rfl (H4.out.alloc _) _ _ _ rfl (by rw [World.cell?_alloc_at _ _ _ _ (by simp)]; rfl) (by omega) (by simp; omega) ?_; intro v1 w2 hown1 hgrow1)
        have hb1 : Below w.heap.size w w2 := (h5.alloc hsz _).grown hgrow1 (by simp; omega) (fun j hj => (H4.out.lt j hj).1)
        refine (hsk _).mono ?_
        rintro e w1 ⟨rfl, rfl⟩
        go_wp2_with fail
        go_roundg (gk - 1)
        case measure => omega
        case rel =>
          refine ⟨k + 1, i + 1, i + 1, by omega, by omega, by omega, by omega, by go_num, by go_num, Lib.hid (fun j _ h1 h2 => by omega), Lib.hid ⟨ds ++ [(s.extract f i).data.toList], by simp [H1.out], ?_, ?_, ?_, hb1⟩⟩
          · rw [H2.out, HCut.out]
            simp
          · rw [ByteArray.size_extract]; omega
          · rw [List.map_append, List.map_cons, List.map_nil, sv_of]
            exact hown1
      · have b1 : (((s[i].toNat : Nat) : Int) == 44) = false := ne_int hc
        have HC2 := Lib.hid (HC.out.more hlt hc)
        clear hc
        go_wp2_with fail
        go_roundg (gk - 1)
        case measure => omega
        case rel => exact ⟨k, f, i + 1, by omega, by omega, by omega, hkf, rfl, by go_num, HC2, H⟩
    · obtain rfl : i = s.size := by omega
      have HE := Lib.hid (HC.out.end_)
      obtain ⟨ds, h1, h2, h3, h4, h5⟩ := H.out
      have H1 := Lib.hid h1
      have H2 := Lib.hid h2
      have H4 := Lib.hid h4
      clear h1 h2 h4 H HC h3
      have hsz := h5.size
      go_wp2_with (at_builtin; refine wpList_app_str rfl (.tmp 29) (.tmp 33) rfl w.heap.size _ _ _ rfl (H4.out.alloc _) _ _ _ rfl (by rw [World.cell?_alloc_at _ _ _ _ (by simp)]; rfl) (by omega) (by simp; omega) ?_; intro v1 w2 hown1 hgrow1)
      have hb1 : Below w.heap.size w w2 := (h5.alloc hsz _).grown hgrow1 (by simp; omega) (fun j hj => (H4.out.lt j hj).1)
      go_ret
      have e2 : sp 44 s.data.toList = ds ++ [(s.extract f s.size).data.toList] := by rw [H2.out, HE.out]
      refine ⟨v1, rfl, hb1, ?_⟩
      rw [e2, List.map_append, List.map_cons, List.map_nil, sv_of, List.length_append, List.length_singleton, H1.out]
      exact hown1
end Go.Proofs.YtocfcajafkkhdaaDoor
end
