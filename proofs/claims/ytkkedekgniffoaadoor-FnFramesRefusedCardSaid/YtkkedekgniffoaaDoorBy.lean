/-
  laws.bytes: frames in bytes; laws.pieces: a text cut at some places.
-/
import Derived.Test.YtkkedekgniffoaaDoorWr
import Derived.Test.YtkkedekgniffoaaDoorJb
namespace Go.Proofs.YtkkedekgniffoaaDoor
open Go.RowKit
open K (Lies strs nums)
def Fa.pr (f : Fa) : Fr.F0 × Nat := (f.f0, f.mask)
def bytesB (l : List Fa) : ByteArray := ⟨(Fr.bytesOf (l.map Fa.pr)).toArray⟩
theorem fr_bytesOf_append : ∀ (a b : List (Fr.F0 × Nat)), Fr.bytesOf (a ++ b) = Fr.bytesOf a ++ Fr.bytesOf b
  | [], _ => rfl
  | (f, m) :: a, b => by simp [Fr.bytesOf, fr_bytesOf_append a b]
theorem bytesB_step (l : List Fa) (k : Nat) (h : k < l.length) : bytesB (l.take (k + 1)) = bytesB (l.take k) ++ ⟨(Fr.written (frA l k).f0 (frA l k).mask).toArray⟩ := by
  apply ba_of
  have e : frA l k = l[k] := by unfold frA; rw [List.getD, List.getElem?_eq_getElem h]; rfl
  rw [List.take_succ_eq_append_getElem h, e]
  rw [K.bapp]
  simp only [bytesB, List.map_append, fr_bytesOf_append, List.map_cons, List.map_nil, Fr.bytesOf, Fa.pr, List.append_nil]
theorem written_len (f : Fa) (h : f.data.size ≤ 400) : (⟨(Fr.written f.f0 f.mask).toArray⟩ : ByteArray).size ≤ 408 := by
  rw [← K.bsize]
  simp only [Fr.written, Fa.f0, Fr.keyOf, Fr.lenOf, List.length_cons, List.length_append, Fr.unm_length, K.bsize]
  split <;> simp <;> omega
def BytesPost (l : List Fa) (w : World) (e : Ending) (w' : World) : Prop := ∃ (s : ByteArray) (b : Bool), e = .returned (.tuple #[.string s, .bool b]) ∧ Below w.heap.size w w' ∧ (b = true → l.length ≤ 8 ∧ (∀ f ∈ l, f.data.size ≤ 400) ∧ s = bytesB l) ∧ (l.length ≤ 8 → (∀ f ∈ l, f.data.size ≤ 400) → b = true)
theorem BytesPost.mk {l : List Fa} {w w' : World} (s : ByteArray) (b : Bool) (h1 : Below w.heap.size w w') (h2 : b = true → l.length ≤ 8 ∧ (∀ f ∈ l, f.data.size ≤ 400) ∧ s = bytesB l) (h3 : l.length ≤ 8 → (∀ f ∈ l, f.data.size ≤ 400) → b = true) : BytesPost l w (.returned (.tuple #[.string s, .bool b])) w' := ⟨s, b, rfl, h1, h2, h3⟩
def BytesRel (l : List Fa) (w : World) (k : Nat) (u : ByteArray) (wr : World) : Prop := Below w.heap.size w wr ∧ u = bytesB (l.take k) ∧ u.size ≤ 408 * k ∧ ∀ j, j < k → (frA l j).data.size ≤ 400

set_option maxHeartbeats 4000000 in
set_option maxRecDepth 100000 in
theorem bytes_any (v : Value) (l : List Fa) (w : World) (hN : FrsV w v l) : Calls Tryd.prog 7 #[v] w (BytesPost l w) := by
  obtain ⟨A, n, cap, rfl, hnc, hc, hA, hok⟩ := hN
  have hnm : n ≤ 9223372036854775807 := by omega
  have HA := Lib.hid (And.intro hA hok)
  clear hA hok hnc hc
  go_enter Tryd.func7, Tryd.ntmps7
  go_wp2_with fail
  go_loopw [4, 5] (fun s i wr => ∃ k : Nat, k ≤ n ∧ k ≤ 9 ∧ i = .int .i64 k ∧ ∃ u, s = .string u ∧ Hid (BytesRel l w k u wr)) (fun _ i _ => n - (intOf i).toNat)
  case atStart => exact ⟨0, by omega, by omega, rfl, ⟨#[]⟩, rfl, Lib.hid ⟨Below.refl _ _, rfl, by simp; rfl, fun j hj => by omega⟩⟩
  case round =>
    obtain ⟨k, hk, hk9, rfl, u, rfl, HB⟩ := hrel
    by_cases hlt : k < n
    · by_cases hl9 : k < 9
      · obtain ⟨ab, ao, rfl, hab, hcs⟩ := HA.out.1.2 (by omega)
        have hx : ∀ o, wr.cell? ⟨ab, o, none⟩ = w.cell? ⟨ab, o, none⟩ := fun o => HB.out.1.cell (p := ⟨ab, o, none⟩) hab
        have c0 := (hx _).trans (hcs k hlt).1
        have c1 := (hx _).trans (hcs k hlt).2.1
        have c2 := (hx _).trans (hcs k hlt).2.2.1
        have c3 := (hx _).trans (hcs k hlt).2.2.2
        have hkl : k < l.length := by have := HA.out.1.1; omega
        have hst := bytesB_step l k hkl
        have HZ := Lib.hid (HA.out.2 _ (frA_mem hkl))
        have hwl := written_len (frA l k)
        obtain ⟨a, ha⟩ : ∃ a, frA l k = a := ⟨_, rfl⟩
        rw [ha] at c0 c1 c2 c3 HZ hst hwl
        have h16 := fun h => written_any a wr HZ.out h
        have hs := HZ.out.data
        have HAA := Lib.hid ha
        clear hcs hx ha
        unfold Fa.v at h16
        obtain ⟨op, fin, mask, s⟩ := a
        simp only at c0 c1 c2 c3 HZ h16 hs
        have hu := HB.out.2.2.1
        have HST := Lib.hid (And.intro hst hwl)
        clear hst hwl
        by_cases hbig : (400 : Int) < (s.size : Int)
        · go_wp2_with fail
          go_ret2
          exact BytesPost.mk _ _ HB.out.1 (fun h => by cases h) (fun _ h => absurd (h _ (frA_mem hkl)) (by rw [HAA.out]; simp only; omega))
        · have h16' := h16 (by omega)
          clear h16
          go_wp2_with fail
          refine h16'.mono ?_
          rintro e w2 ⟨rfl, hb2⟩
          have HB2 := Lib.hid (HB.out.1.trans (hb2.mono HB.out.1.size))
          have hts := HST.out.2 (by show s.size ≤ 400; omega)
          have hts2 : u.size + (⟨(Fr.written (⟨op, fin, mask, s⟩ : Fa).f0 mask).toArray⟩ : ByteArray).size ≤ 10000 := by
            have hts' : (⟨(Fr.written (⟨op, fin, mask, s⟩ : Fa).f0 mask).toArray⟩ : ByteArray).size ≤ 408 := hts
            omega
          have HSZ := Lib.hid hts
          clear hb2 hts
          obtain ⟨t, ht⟩ : ∃ t : ByteArray, (⟨(Fr.written (⟨op, fin, mask, s⟩ : Fa).f0 mask).toArray⟩ : ByteArray) = t := ⟨_, rfl⟩
          rw [ht] at hts2 ⊢
          have HT := Lib.hid ht
          clear ht
          go_wp2_with fail
          go_roundw
          case rel =>
            refine ⟨k + 1, by omega, by omega, by go_num, _, rfl, Lib.hid ⟨HB2.out, ?_, ?_, fun j hj => ?_⟩⟩
            · rw [HST.out.1, HB.out.2.1, ← HT.out]
            · have h : (⟨(Fr.written (⟨op, fin, mask, s⟩ : Fa).f0 mask).toArray⟩ : ByteArray).size ≤ 408 := HSZ.out
              rw [HT.out] at h
              simp
              omega
            · by_cases hjk : j < k
              · exact HB.out.2.2.2 j hjk
              · obtain rfl : j = k := by omega
                rw [HAA.out]; simp only; omega
          case measure => simp [intOf]; omega
      · have hn8 : ¬ ((n : Int) ≤ 8) := by omega
        go_wp2_with fail
        go_ret2
        exact BytesPost.mk _ _ HB.out.1 (fun h => by cases h) (fun h _ => absurd h (by have := HA.out.1.1; omega))
    · obtain rfl : k = n := by omega
      by_cases hn8 : (k : Int) ≤ 8
      · go_wp2_with fail
        go_ret2
        have hl := HA.out.1.1
        refine BytesPost.mk _ _ HB.out.1 (fun _ => ⟨by omega, fun f hf => ?_, by rw [HB.out.2.1, List.take_of_length_le (by omega)]⟩) (fun _ _ => rfl)
        obtain ⟨j, hj, rfl⟩ := List.getElem_of_mem hf
        have := HB.out.2.2.2 j (by omega)
        unfold frA at this
        rwa [List.getD, List.getElem?_eq_getElem hj] at this
      · go_wp2_with fail
        go_ret2
        exact BytesPost.mk _ _ HB.out.1 (fun h => by cases h) (fun h _ => absurd h (by have := HA.out.1.1; omega))

/-! ## laws.pieces -/
theorem info9 : (Tryd.prog.info? 9).map (fun i => (i.zero, i.size, i.bytes)) = some (some (.string ByteArray.empty), 1, 16) := by kernel_rfl

/-- int(uint(z) % uint(n+1)) is a number from 0 to n. -/
theorem cut_at (z : Int) (n : Nat) (hn : n ≤ 1000000) : ∃ m : Nat, m ≤ n ∧ wrap64 ((IntKind.u64.wrap z).tmod ((n : Int) + 1)) = (m : Int) := by
  have h0 : 0 ≤ IntKind.u64.wrap z := by
    unfold IntKind.wrap
    simp only [IntKind.signed, IntKind.bits]
    simp
    omega
  have h1 : (IntKind.u64.wrap z).tmod ((n : Int) + 1) = IntKind.u64.wrap z % ((n : Int) + 1) := Int.tmod_eq_emod_of_nonneg h0
  have h2 : 0 ≤ IntKind.u64.wrap z % ((n : Int) + 1) := Int.emod_nonneg _ (by omega)
  have h3 : IntKind.u64.wrap z % ((n : Int) + 1) < (n : Int) + 1 := Int.emod_lt_of_pos _ (by omega)
  refine ⟨(IntKind.u64.wrap z % ((n : Int) + 1)).toNat, by omega, ?_⟩
  rw [h1]
  unfold wrap64
  omega

def flatS (ss : List ByteArray) : List UInt8 := ss.flatMap fun s => s.data.toList
/-- a slice of texts of the call's own, that are s when joined -/
def PiecesPost (s : List UInt8) (n : Nat) (w : World) (e : Ending) (w' : World) : Prop :=
  ∃ A cap ss, e = .returned (.slice A (n + 1) cap) ∧ ss.length = n + 1 ∧ Lies w' A (n + 1) (K.strs ss) ∧ flatS ss = s ∧ Below w.heap.size w w'

theorem strs_of_map (ss : List ByteArray) (j : Nat) (h : j < ss.length) : (ss.map Value.string).getD j undef = K.strs ss j := by
  simp [K.strs, List.getD, h]

theorem ext_join (t : ByteArray) (m : Nat) (_hm : m ≤ t.size) : (t.extract 0 m).data.toList ++ (t.extract m t.size).data.toList = t.data.toList := by
  rw [← K.bapp]
  congr 2
  rw [ByteArray.extract_append_extract]
  simp

set_option maxRecDepth 100000 in
theorem pieces_any (s : ByteArray) (zs : List Int) (n cap : Nat) (A : Option Addr) (w : World) (hlen : zs.length = n) (hn6 : n ≤ 12) (hs : s.size ≤ 10000) (hl : Lies w A n (K.nums .i64 zs)) (hz : ∀ z ∈ zs, -9223372036854775808 ≤ z ∧ z ≤ 9223372036854775807) :
  Calls Tryd.prog 13 #[.string s, .slice A n cap] w (PiecesPost s.data.toList n w) := by
  have HL := Lib.hid hlen
  have HC := Lib.hid hl
  have HZ := Lib.hid hz
  clear hlen hl hz
  obtain ⟨i0, hi0, hz0, hz1, hz2⟩ := info_parts info9
  have HI0 := Lib.hid hi0
  have HI1 := Lib.hid hz0
  have HI2 := Lib.hid hz1
  have HI3 := Lib.hid hz2
  clear hi0 hz0 hz1 hz2
  go_enter Tryd.func13, Tryd.ntmps13
  go_wp2_with fail
  go_loopg [0, 5, 6] n (fun gk sv v i wr => ∃ (k : Nat) (t : ByteArray) (ss : List ByteArray), gk + k = n ∧ i = .int .i64 k ∧ sv = .string t ∧ t.size ≤ 10000 ∧ ss.length = k ∧
     wr.ownsRow w.heap.size 9 1 v k (ss.map Value.string) ∧ flatS ss ++ t.data.toList = s.data.toList ∧ Below w.heap.size w wr)
  case atStart => exact ⟨0, s, [], by omega, rfl, rfl, hs, rfl, World.ownsRow_nil _ _ _ _, rfl, Below.refl _ _⟩
  case round =>
    obtain ⟨k, t, ss, hk1, rfl, rfl, ht, hss, hown, hj, hb⟩ := hrel
    have HSS := Lib.hid hss
    have HJ := Lib.hid hj
    have HK := Lib.hid hk1
    have HO := Lib.hid hown
    have hk : k ≤ n := by omega
    have hbs := hb.size
    clear hss hj hk1 hown
    by_cases hlt : k < n
    · obtain ⟨ab, ao, rfl, hab, hcs⟩ := HC.out (by omega)
      have c2 : wr.cell? ⟨ab, ao + k, none⟩ = some (.int .i64 (zs.getD k 0)) := (hb.cell hab).trans (hcs k hlt)
      have hzk := HZ.out (zs.getD k 0) (by rw [List.getD, List.getElem?_eq_getElem (by rw [HL.out]; exact hlt)]; exact List.getElem_mem _)
      generalize zs.getD k 0 = z at c2 hzk
      obtain ⟨m, hm, he⟩ := cut_at z t.size (by omega)
      clear hcs
      go_wp2_with (at_builtin; refine wpList_append_own _ rfl (.tmp 29) (.tmp 33) 30 rfl w.heap.size 9 i0 (.string ByteArray.empty) 1 16 Tryd.underlying30 HI0.out HI1.out HI2.out HI3.out rfl (by decide) _ _ _ rfl (HO.out.alloc _) ⟨wr.heap.size, 0, none⟩ 1 1 [.string (t.extract 0 m)] rfl rfl (K.cells_one _ _ _) (by intro u hu; simp at hu; subst hu; rfl) (by unfold maxLen; omega) (by omega) (by simp; omega) ?_; intro v1 w1 hown1 hgrow1 h; clear h)
      have hb1 : Below w.heap.size w w1 := (hb.alloc hbs _).grown hgrow1 (by simp; omega) (fun j hj => (HO.out.lt j hj).1)
      have HO1 := Lib.hid hown1
      clear hown1 hgrow1
      go_wp2_with fail
      go_roundg (gk - 1)
      case measure => have := HK.out; omega
      case rel =>
        refine ⟨k + 1, t.extract m t.size, ss ++ [t.extract 0 m], by have := HK.out; omega, by go_num, rfl, by simp; omega, by simp [HSS.out], ?_, ?_, hb1⟩
        · have := HO1.out; rw [List.map_append]; exact this
        · rw [← HJ.out, ← ext_join t m hm]
          simp only [flatS, List.flatMap_append, List.flatMap_cons, List.flatMap_nil, List.append_nil, List.append_assoc]
    · have hkn : k = n := by omega
      subst hkn
      go_wp2_with (at_builtin; refine wpList_append_own _ rfl (.tmp 38) (.tmp 40) 30 rfl w.heap.size 9 i0 (.string ByteArray.empty) 1 16 Tryd.underlying30 HI0.out HI1.out HI2.out HI3.out rfl (by decide) _ _ _ rfl (HO.out.alloc _) ⟨wr.heap.size, 0, none⟩ 1 1 [.string t] rfl rfl (K.cells_one _ _ _) (by intro u hu; simp at hu; subst hu; rfl) (by unfold maxLen; omega) (by omega) (by simp; omega) ?_; intro v1 w1 hown1 hgrow1 h; clear h)
      have hb1 : Below w.heap.size w w1 := (hb.alloc hbs _).grown hgrow1 (by simp; omega) (fun j hj => (HO.out.lt j hj).1)
      obtain ⟨A1, cap1, rfl, _, hlen1, hl1, _⟩ := K.lies_of_own hown1
      have HL1 := Lib.hid hl1
      clear hown1 hgrow1 hl1 hlen1
      go_wp2_with fail
      go_ret
      refine ⟨A1, cap1, ss ++ [t], rfl, by simp [HSS.out], ?_, ?_, hb1⟩
      · have h := HL1.out
        have e : (List.map Value.string ss ++ [Value.string t]) = (ss ++ [t]).map Value.string := by simp
        rw [e] at h
        intro hn
        obtain ⟨x, y, h1, h2, h3⟩ := h hn
        exact ⟨x, y, h1, h2, fun j hj => (h3 j hj).trans (congrArg some (strs_of_map _ _ (by simp [HSS.out]; omega)))⟩
      · rw [← HJ.out]
        simp only [flatS, List.flatMap_append, List.flatMap_cons, List.flatMap_nil, List.append_nil]
end Go.Proofs.YtkkedekgniffoaaDoor
