/-
  unicode/utf8.word and Valid on bytes below 128: Valid says yes.
-/
import Derived.Test.YtjaodjeommkjgaaDoorRd
import Derived.Shelf.Unicode.WordAny
import Derived.Lib.ValidAsc
import Derived.Laws.BitsAllLaws
namespace Go.Proofs.YtjaodjeommkjgaaDoor
open Go.RowKit
open K (Lies)

def W8 (t : ByteArray) : Nat := Lib.leNat [t.get! 0, t.get! 1, t.get! 2, t.get! 3, t.get! 4, t.get! 5, t.get! 6, t.get! 7]
theorem get_bytes {w : World} {ab o : Nat} {t : ByteArray} (h : BytesAt w ab o t.data.toList) (j : Nat) (hj : j < t.size) : w.cell? ⟨ab, o + j, none⟩ = some (.int .u8 (t.get! j).toNat) := by
  rw [h j (by rw [K.bsize]; exact hj), Utf8W.get!_of_lt t j hj]
  have e := at_get t j hj
  unfold at_ at e
  rw [← e]; rfl

set_option maxHeartbeats 8000000 in
set_option maxRecDepth 100000 in
theorem word_any (t : ByteArray) (n ab o c : Nat) (w : World) (hn : t.size = n) (hs : 8 ≤ n) (h : BytesAt w ab o t.data.toList) :
    Calls Tryd.prog 45 #[.slice (some ⟨ab, o, none⟩) n c] w (fun e w' => e = .returned (.int .u64 (W8 t)) ∧ ∃ q, w' = w.drewN q) := by
  subst hn
  have s0 : w.cell? ⟨ab, o, none⟩ = some (.int .u8 (t.get! 0).toNat) := get_bytes h 0 (by omega)
  have s1 := get_bytes h 1 (by omega)
  have s2 := get_bytes h 2 (by omega)
  have s3 := get_bytes h 3 (by omega)
  have s4 := get_bytes h 4 (by omega)
  have s5 := get_bytes h 5 (by omega)
  have s6 := get_bytes h 6 (by omega)
  have s7 := get_bytes h 7 (by omega)
  unfold W8
  generalize t.get! 0 = x0 at s0 ⊢
  generalize t.get! 1 = x1 at s1 ⊢
  generalize t.get! 2 = x2 at s2 ⊢
  generalize t.get! 3 = x3 at s3 ⊢
  generalize t.get! 4 = x4 at s4 ⊢
  generalize t.get! 5 = x5 at s5 ⊢
  generalize t.get! 6 = x6 at s6 ⊢
  generalize t.get! 7 = x7 at s7 ⊢
  have h0 : x0.toNat < 256 := x0.toNat_lt
  have h1 : x1.toNat < 256 := x1.toNat_lt
  have h2 : x2.toNat < 256 := x2.toNat_lt
  have h3 : x3.toNat < 256 := x3.toNat_lt
  have h4 : x4.toNat < 256 := x4.toNat_lt
  have h5 : x5.toNat < 256 := x5.toNat_lt
  have h6 : x6.toNat < 256 := x6.toNat_lt
  have h7 : x7.toNat < 256 := x7.toNat_lt
  clear h
  have hv : ((Lib.leNat [x0, x1, x2, x3, x4, x5, x6, x7] : Nat) : Int) = (x0.toNat : Int) + (x1.toNat : Int) * 256 + (x2.toNat : Int) * 65536 + (x3.toNat : Int) * 16777216 + (x4.toNat : Int) * 4294967296 + (x5.toNat : Int) * 1099511627776 + (x6.toNat : Int) * 281474976710656 + (x7.toNat : Int) * 72057594037927936 := by
    simp only [Lib.leNat]
    push_cast
    omega
  have q0 : (0 : Int) < (t.size : Int) := by omega
  have q1 : (1 : Int) < (t.size : Int) := by omega
  have q2 : (2 : Int) < (t.size : Int) := by omega
  have q3 : (3 : Int) < (t.size : Int) := by omega
  have q4 : (4 : Int) < (t.size : Int) := by omega
  have q5 : (5 : Int) < (t.size : Int) := by omega
  have q6 : (6 : Int) < (t.size : Int) := by omega
  have q7 : (7 : Int) < (t.size : Int) := by omega
  generalize t.size = n at *
  go_enter Tryd.func45, Tryd.ntmps45
  go_wp2_with fail
  go_quiet (fail)
  go_wp2_with fail
  go_ret
  refine ⟨?_, _, rfl⟩
  simp (disch := omega) only [u64_wrap_id, u64_or8, u64_or16, u64_or24, u64_or32, u64_or40, u64_or48, u64_or56]
  rw [hv]
  rfl

/-! ### Valid -/
def Asc (t : ByteArray) : Prop := ∀ c ∈ t.data.toList, c.toNat < 128
theorem mask0 (t : ByteArray) (h : Asc t) (h8 : 8 ≤ t.size) : W8 t &&& 9259542123273814144 = 0 := (Lib.word_asc t h8).2 fun b hb => h b (List.mem_of_mem_take hb)
theorem w8_lt (t : ByteArray) : W8 t < 18446744073709551616 := Lib.word_lt t
theorem or_zero {a b m : Nat} (ha : a &&& m = 0) (hb : b &&& m = 0) : (a ||| b) &&& m = 0 := (Lib.or_mask a b m).2 ⟨ha, hb⟩
theorem or_lt {a b : Nat} (ha : a < 18446744073709551616) (hb : b < 18446744073709551616) : a ||| b < 18446744073709551616 := Nat.or_lt_two_pow (n := 64) ha hb
theorem and0 {a : Nat} (ha : a < 18446744073709551616) (h : a &&& 9259542123273814144 = 0) : bits .and .u64 (a : Int) 9259542123273814144 = 0 := by
  have := u64_and_nat a 9259542123273814144 ha (by omega)
  rw [h] at this
  exact this

theorem ext_asc {t : ByteArray} (h : Asc t) (k : Nat) : Asc (t.extract k t.size) := by
  intro c hc
  rw [Lib.extract_data] at hc
  exact h c (List.mem_of_mem_drop (List.mem_of_mem_take hc))
theorem ext_sz (t : ByteArray) (k : Nat) : (t.extract k t.size).size = t.size - k := by rw [ByteArray.size_extract]; omega
theorem ext_bytes {w : World} {ab o : Nat} {t : ByteArray} (h : BytesAt w ab o t.data.toList) (k : Nat) : BytesAt w ab (o + k) (t.extract k t.size).data.toList := by
  intro j hj
  have hl := ext_sz t k
  rw [K.bsize, hl] at hj
  have e := h (k + j) (by rw [K.bsize]; omega)
  rw [Nat.add_assoc, e]
  congr 2
  rw [Lib.extract_data]
  have hk : k + j < t.data.size := by have : t.data.size = t.size := rfl; omega
  simp only [List.getD, List.getElem?_take, List.getElem?_drop, show j < t.size - k from hj, if_true]

/-- A suffix of the text. -/
def Sf (w : World) (ab : Nat) (p : Value) (m : Nat) : Prop := ∃ (u : ByteArray) (o : Nat), p = .slice (some ⟨ab, o, none⟩) m m ∧ u.size = m ∧ BytesAt w ab o u.data.toList ∧ Asc u
theorem Sf.mk {w : World} {ab o m : Nat} {u : ByteArray} (hz : u.size = m) (h : BytesAt w ab o u.data.toList) (ha : Asc u) : Sf w ab (.slice (some ⟨ab, o, none⟩) m m) m := ⟨u, o, rfl, hz, h, ha⟩

theorem Sf.zero {w : World} {ab o m : Nat} (h : m = 0) : Sf w ab (.slice (some ⟨ab, o, none⟩) 0 0) m := by
  subst h
  exact ⟨ByteArray.empty, o, rfl, rfl, fun j hj => by simp at hj, fun c hc => by simp at hc⟩

def ValidPost (w : World) (e : Ending) (w' : World) : Prop := e = .returned (.bool true) ∧ ∃ q, w' = w.drewN q

set_option maxHeartbeats 16000000 in
set_option maxRecDepth 1000000 in
theorem valid_any (t : ByteArray) (n ab o c : Nat) (w : World) (hn : t.size = n) (h100 : n ≤ 100000) (hnc : n ≤ c) (hB : BytesAt w ab o t.data.toList) (hA : Asc t) :
    Calls Tryd.prog 41 #[.slice (some ⟨ab, o, none⟩) n c] w (ValidPost w) := by
  have HS := Lib.hid (Sf.mk hn hB hA)
  clear hn hB hA
  have g1 : (n : Int) ≤ (c : Int) := by omega
  go_enter Tryd.func41, Tryd.ntmps41
  go_wp2_with fail
  go_loopg [0] (n + 1) (fun gk p wr => ∃ m : Nat, m < gk ∧ m ≤ n ∧ Sf w ab p m ∧ ∃ q, wr = w.drewN q)
  case atStart => exact ⟨n, by omega, by omega, HS.out, 0, rfl⟩
  case round =>
    obtain ⟨m, hmg, hmn, ⟨u, o1, rfl, hu, hb, ha⟩, q, rfl⟩ := hrel
    have HB := Lib.hid (show BytesAt (w.drewN q) ab o1 u.data.toList from hb)
    have HA := Lib.hid ha
    have HU := Lib.hid hu
    by_cases h0 : 0 < m
    · have cb : (w.drewN q).cell? ⟨ab, o1, none⟩ = some (.int .u8 (u.get! 0).toNat) := get_bytes (w := w.drewN q) hb 0 (by omega)
      have hx : (u.get! 0).toNat < 128 := by
        have := at_get u 0 (by omega)
        have e : u.get! 0 = u[0]'(by omega) := Utf8W.get!_of_lt u 0 (by omega)
        rw [e]
        exact ha _ (by exact Array.getElem_mem_toList _)
      generalize u.get! 0 = x0 at cb hx
      have hb1 := ext_bytes hb 1
      have ha1 := ext_asc ha 1
      have hz1 : (u.extract 1 u.size).size = m - 1 := by rw [ext_sz, hu]
      generalize u.extract 1 u.size = u1 at hb1 ha1 hz1
      have p1 : (1 : Int) ≤ (m : Int) := by omega
      have hxz : (x0.toNat : Int) < 128 := by omega
      clear hb ha hu
      by_cases c8 : 8 < m - 1
      · have c8z : (8 : Int) < ((m - 1 : Nat) : Int) := by omega
        have e8 : (8 : Int) ≤ ((m - 1 : Nat) : Int) := by omega
        have cW := fun q' => word_any u1 (m - 1) ab (o1 + 1) (m - 1) (w.drewN q') hz1 (by omega) (show BytesAt (w.drewN q') ab (o1 + 1) u1.data.toList from hb1)
        have k1 := and0 (w8_lt u1) (mask0 u1 ha1 (by omega))
        generalize W8 u1 = A1 at cW k1
        have hb2 := ext_bytes hb1 8
        have ha2 := ext_asc ha1 8
        have hz2 : (u1.extract 8 u1.size).size = m - 1 - 8 := by rw [ext_sz, hz1]
        generalize u1.extract 8 u1.size = u2 at hb2 ha2 hz2
        clear hz1 hb1 ha1
        go_wp2_with fail
        refine (cW q).mono ?_
        rintro e W1 ⟨rfl, q1, rfl⟩
        rw [World.drewN_drewN]
        generalize q + q1 = q2
        clear cW cb HB HA HU
        by_cases c16 : 16 < m - 1 - 8
        · obtain ⟨V, hV⟩ : ∃ V, w.drewN q2 = V := ⟨_, rfl⟩
          have bV : ∀ {o' : Nat} {l : List UInt8} (q' : Nat), BytesAt w ab o' l → BytesAt (V.drewN q') ab o' l := fun q' h => by rw [← hV]; exact h
          rw [hV]
          have HV := Lib.hid hV
          clear hV
          have c16z : (16 : Int) < ((m - 1 - 8 : Nat) : Int) := by omega
          have s8z : (8 : Int) ≤ ((m - 1 - 8 : Nat) : Int) := by omega
          have s16z : (16 : Int) ≤ ((m - 1 - 8 : Nat) : Int) := by omega
          have hb3 := ext_bytes hb2 8
          have ha3 := ext_asc ha2 8
          have hz3 : (u2.extract 8 u2.size).size = m - 1 - 8 - 8 := by rw [ext_sz, hz2]
          have hb4 := ext_bytes hb2 16
          have ha4 := ext_asc ha2 16
          have hz4 : (u2.extract 16 u2.size).size = m - 1 - 8 - 16 := by rw [ext_sz, hz2]
          generalize u2.extract 8 u2.size = u3 at hb3 ha3 hz3
          generalize u2.extract 16 u2.size = u4 at hb4 ha4 hz4
          have cW2 := fun q' => word_any u2 (m - 1 - 8) ab (o1 + 1 + 8) (m - 1 - 8) (V.drewN q') hz2 (by omega) (bV q' hb2)
          have cW3 := fun q' => word_any u3 (m - 1 - 8 - 8) ab (o1 + 1 + 8 + 8) (m - 1 - 8 - 8) (V.drewN q') hz3 (by omega) (bV q' hb3)
          have r1 := u64_or_nat _ _ (w8_lt u2) (w8_lt u3)
          have r2 := and0 (or_lt (w8_lt u2) (w8_lt u3)) (or_zero (mask0 u2 ha2 (by omega)) (mask0 u3 ha3 (by omega)))
          generalize W8 u2 ||| W8 u3 = O2 at r1 r2
          generalize W8 u2 = A2 at cW2 r1
          generalize W8 u3 = A3 at cW3 r1
          have HS4 := Lib.hid (Sf.mk hz4 hb4 ha4)
          clear hb2 ha2 hz2 hb3 ha3 hz3 hz4 hb4 ha4
          go_wp2_with fail
          go_big_quiet (first | (go_at_call 45; with_reducible refine Calls.quiet_of (cW2 _)) | (go_at_call 45; with_reducible refine Calls.quiet_of (cW3 _)))
          clear bV cW2 cW3 r1 r2
          have HW : Hid (∃ q, V.drewN nq = w.drewN q) := Lib.hid ⟨q2 + nq, by rw [← HV.out, World.drewN_drewN]⟩
          go_wp2_with fail
          obtain ⟨g', rfl⟩ : ∃ g', gk = g' + 1 := ⟨gk - 1, by omega⟩
          go_loopg [0] (m - 1 - 8 - 16 + 1) (fun hk p wr => ∃ m2 : Nat, m2 < hk ∧ m2 ≤ m - 1 - 8 - 16 ∧ Sf w ab p m2 ∧ ∃ q, wr = w.drewN q)
          case atStart =>
            refine ⟨m - 1 - 8 - 16, by omega, by omega, ?_, HW.out⟩
            first | exact HS4.out | exact Sf.zero (by omega)
          case round =>
            obtain ⟨m2, hm2, hm3, ⟨v0, o2, rfl, y0, b0, a0⟩, q5, rfl⟩ := hrel
            by_cases c32 : 32 < m2
            · obtain ⟨V2, hV⟩ : ∃ V2, w.drewN q5 = V2 := ⟨_, rfl⟩
              have bV : ∀ {o' : Nat} {l : List UInt8} (q' : Nat), BytesAt w ab o' l → BytesAt (V2.drewN q') ab o' l := fun q' h => by rw [← hV]; exact h
              rw [hV]
              have HV2 := Lib.hid hV
              clear hV
              have c32z : (32 : Int) < (m2 : Int) := by omega
              have s8z : (8 : Int) ≤ (m2 : Int) := by omega
              have s16z : (16 : Int) ≤ (m2 : Int) := by omega
              have s24z : (24 : Int) ≤ (m2 : Int) := by omega
              have s32z : (32 : Int) ≤ (m2 : Int) := by omega
              have b1 := ext_bytes b0 8
              have a1 := ext_asc a0 8
              have y1 : (v0.extract 8 v0.size).size = m2 - 8 := by rw [ext_sz, y0]
              have b2 := ext_bytes b0 16
              have a2 := ext_asc a0 16
              have y2 : (v0.extract 16 v0.size).size = m2 - 16 := by rw [ext_sz, y0]
              have b3 := ext_bytes b0 24
              have a3 := ext_asc a0 24
              have y3 : (v0.extract 24 v0.size).size = m2 - 24 := by rw [ext_sz, y0]
              have b4 := ext_bytes b0 32
              have a4 := ext_asc a0 32
              have y4 : (v0.extract 32 v0.size).size = m2 - 32 := by rw [ext_sz, y0]
              generalize v0.extract 8 v0.size = v1 at b1 a1 y1
              generalize v0.extract 16 v0.size = v2 at b2 a2 y2
              generalize v0.extract 24 v0.size = v3 at b3 a3 y3
              generalize v0.extract 32 v0.size = v4 at b4 a4 y4
              have cX0 := fun q' => word_any v0 (m2) ab (o2) (m2) (V2.drewN q') y0 (by omega) (bV q' b0)
              have cX1 := fun q' => word_any v1 (m2 - 8) ab (o2 + 8) (m2 - 8) (V2.drewN q') y1 (by omega) (bV q' b1)
              have cX2 := fun q' => word_any v2 (m2 - 16) ab (o2 + 16) (m2 - 16) (V2.drewN q') y2 (by omega) (bV q' b2)
              have cX3 := fun q' => word_any v3 (m2 - 24) ab (o2 + 24) (m2 - 24) (V2.drewN q') y3 (by omega) (bV q' b3)
              have r1 := u64_or_nat _ _ (w8_lt v0) (w8_lt v1)
              have r2 := u64_or_nat _ _ (w8_lt v2) (w8_lt v3)
              have r3 := u64_or_nat _ _ (or_lt (w8_lt v0) (w8_lt v1)) (or_lt (w8_lt v2) (w8_lt v3))
              have r4 := and0 (or_lt (or_lt (w8_lt v0) (w8_lt v1)) (or_lt (w8_lt v2) (w8_lt v3))) (or_zero (or_zero (mask0 v0 a0 (by omega)) (mask0 v1 a1 (by omega))) (or_zero (mask0 v2 a2 (by omega)) (mask0 v3 a3 (by omega))))
              generalize (W8 v0 ||| W8 v1) ||| (W8 v2 ||| W8 v3) = O3 at r3 r4
              generalize W8 v0 ||| W8 v1 = O1 at r1 r3
              generalize W8 v2 ||| W8 v3 = O2 at r2 r3
              generalize W8 v0 = A0 at cX0 r1
              generalize W8 v1 = A1 at cX1 r1
              generalize W8 v2 = A2 at cX2 r2
              generalize W8 v3 = A3 at cX3 r2
              have HS5 := Lib.hid (Sf.mk y4 b4 a4)
              clear b0 a0 y0 b1 a1 y1 b2 a2 y2 b3 a3 y3 b4 a4 y4
              go_wp2_with fail
              go_big_quiet (first | (go_at_call 45; with_reducible refine Calls.quiet_of (cX0 _)) | (go_at_call 45; with_reducible refine Calls.quiet_of (cX1 _)) | (go_at_call 45; with_reducible refine Calls.quiet_of (cX2 _)) | (go_at_call 45; with_reducible refine Calls.quiet_of (cX3 _)))
              clear bV cX0 cX1 cX2 cX3 r1 r2 r3 r4
              have HW2 : Hid (∃ q, V2.drewN nq = w.drewN q) := Lib.hid ⟨q5 + nq, by rw [← HV2.out, World.drewN_drewN]⟩
              go_wp2_with fail
              go_roundg (gk - 1)
              case measure => omega
              case rel => exact ⟨m2 - 32, by omega, by omega, HS5.out, HW2.out⟩
            · have HS6 := Lib.hid (Sf.mk y0 b0 a0)
              clear y0 b0 a0
              have c32z : ¬ ((32 : Int) < (m2 : Int)) := by omega
              have c32b : decide ((32 : Int) < (m2 : Int)) = false := decide_eq_false c32z
              go_wp2_with fail
              go_big_quiet (fail)
              go_wp2_with fail
              go_roundg g'
              case measure => omega
              case rel => exact ⟨m2, by omega, by omega, HS6.out, q5 + nq, by rw [World.drewN_drewN]⟩
        · have HS2 := Lib.hid (Sf.mk hz2 hb2 ha2)
          clear hz2 hb2 ha2
          have c16z : ¬ ((16 : Int) < ((m - 1 - 8 : Nat) : Int)) := by omega
          have c16b : decide ((16 : Int) < ((m - 1 - 8 : Nat) : Int)) = false := decide_eq_false c16z
          go_wp2_with fail
          go_big_quiet (fail)
          go_wp2_with fail
          go_roundg (gk - 1)
          case measure => omega
          case rel => exact ⟨m - 1 - 8, by omega, by omega, HS2.out, q2 + nq, by rw [World.drewN_drewN]⟩
      · have HS1 := Lib.hid (Sf.mk hz1 hb1 ha1)
        clear hz1 hb1 ha1
        go_wp2_with fail
        all_goals
          go_roundg (gk - 1)
          case measure => omega
          case rel => exact ⟨m - 1, by omega, by omega, by first | exact HS1.out | exact Sf.zero (by omega), q, rfl⟩
    · obtain rfl : m = 0 := by omega
      clear hb ha hu
      go_wp2_with fail
      go_ret
      exact ⟨rfl, q, rfl⟩
end Go.Proofs.YtjaodjeommkjgaaDoor
