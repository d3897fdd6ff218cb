/-
  reading a PUBLISH: mqttValidateTopic, mqttGetQoS.
-/
import Derived.Test.YtjaodjeommkjgaaDoorWord
import Derived.Lib.BytesEntry
namespace Go.Proofs.YtjaodjeommkjgaaDoor
open Go.RowKit
open K (Lies)

def IbPost (xs : List Int) (cv : Int) (w : World) (e : Ending) (w' : World) : Prop := e = .returned (.int .i64 (Lib.indexByte (Lib.bytesOf xs) cv.toNat.toUInt8)) ∧ w' = w
set_option maxHeartbeats 1000000 in
set_option maxRecDepth 100000 in
theorem indexByte_any (b o n c : Nat) (xs : List Int) (cv : Int) (w : World) (hx : xs.length = n) (hc : ∀ i, i < n → w.cell? ⟨b, o + i, none⟩ = some (.int .u8 (xs.getD i 0))) :
    Calls Tryd.prog 42 #[.slice (some ⟨b, o, none⟩) n c, .int .u8 cv] w (IbPost xs cv w) := by
  go_enter Tryd.func42, Tryd.ntmps42
  go_wp2
  rw [run_callFunc_extern Tryd.func46 (by kernel_rfl) (by kernel_rfl) (by kernel_rfl) (e := Extern.BytealgIndexByte.indexByte) (by kernel_rfl), Lib.run_indexByteSlice w b o n c xs hx hc cv]
  simp only [Result.andThen]
  rw [Oper.upon_value]
  go_wp2
  go_ret
  exact ⟨rfl, rfl⟩

theorem ib_none : ∀ (l : List UInt8), (∀ c ∈ l, c ≠ 0) → Lib.indexByte l 0 = -1
  | [], _ => rfl
  | b :: l, h => by
    have h1 : (b == 0) = false := by have := h b (by simp); simpa using this
    have h2 := ib_none l (fun c hc => h c (by simp [hc]))
    unfold Lib.indexByte
    simp [h1, h2]
theorem bytesOf_map (l : List UInt8) : Lib.bytesOf (l.map fun b => (b.toNat : Int)) = l := by
  unfold Lib.bytesOf
  rw [List.map_map]
  conv => rhs; rw [← List.map_id l]
  apply List.map_congr_left
  intro b _
  simp
theorem plain_asc {s : ByteArray} (h : Plain s false) : Asc s := by
  intro c hc
  obtain ⟨k, hk, rfl⟩ := mem_at hc
  rcases h.2 k hk with g | g
  · unfold good at g
    rcases g with g | g | g | g | g | ⟨g, _⟩
    · omega
    · omega
    · omega
    · omega
    · omega
    · cases g
  · omega
theorem plain_nz {s : ByteArray} (h : Plain s false) : ∀ c ∈ s.data.toList, c ≠ 0 := by
  intro c hc e
  obtain ⟨k, hk, rfl⟩ := mem_at hc
  have e2 : (at_ s k).toNat = 0 := by rw [e]; rfl
  rcases h.2 k hk with g | g
  · unfold good at g
    rcases g with g | g | g | g | g | ⟨g, _⟩
    · omega
    · omega
    · omega
    · omega
    · omega
    · cases g
  · omega

def NilPost (w : World) (e : Ending) (w' : World) : Prop := e = .returned .nilIface ∧ ∃ q, w' = w.drewN q
set_option maxHeartbeats 1000000 in
set_option maxRecDepth 100000 in
theorem validate_any (t : ByteArray) (n ab o c : Nat) (nm : ByteArray) (w : World) (hn : t.size = n) (h100 : n ≤ 100000) (hnc : n ≤ c) (hB : BytesAt w ab o t.data.toList) (hP : Plain t false) :
    Calls Tryd.prog 37 #[.slice (some ⟨ab, o, none⟩) n c, .string nm] w (NilPost w) := by
  have h41 := valid_any t n ab o c w hn h100 hnc hB (plain_asc hP)
  have h42 := fun q => indexByte_any ab o n c (t.data.toList.map fun b => (b.toNat : Int)) 0 (w.drewN q) (by rw [List.length_map, K.bsize]; exact hn) (fun i hi => by
    have h := hB i (by rw [K.bsize]; omega)
    have hi' : i < t.data.toList.length := by rw [K.bsize]; omega
    rw [show (w.drewN q).cell? ⟨ab, o + i, none⟩ = w.cell? ⟨ab, o + i, none⟩ from rfl, h]
    simp only [bv, List.getD, List.getElem?_map, List.getElem?_eq_getElem hi', Option.map_some, Option.getD_some])
  have e0 : Lib.indexByte (Lib.bytesOf (t.data.toList.map fun b => (b.toNat : Int))) ((0 : Int).toNat.toUInt8) = -1 := by
    rw [bytesOf_map]
    exact ib_none _ (plain_nz hP)
  unfold IbPost at h42
  rw [e0] at h42
  clear hB hP e0
  go_enter Tryd.func37, Tryd.ntmps37
  go_wp2_with fail
  refine h41.mono ?_
  rintro e w1 ⟨rfl, q, rfl⟩
  clear h41
  go_wp2_with fail
  refine (h42 q).mono ?_
  rintro e w2 ⟨rfl, rfl⟩
  clear h42
  go_wp2_with fail
  go_ret
  exact ⟨rfl, q, rfl⟩

def QosPost (q : Nat) (w : World) (e : Ending) (w' : World) : Prop := e = .returned (.int .u8 q) ∧ w' = w
set_option maxRecDepth 100000 in
theorem qos_any (fl : Nat) (h : fl < 6) (w : World) : Calls Tryd.prog 34 #[.int .u8 fl] w (QosPost (fl / 2) w) := by
  have hh : fl = 0 ∨ fl = 1 ∨ fl = 2 ∨ fl = 3 ∨ fl = 4 ∨ fl = 5 := by omega
  rcases hh with rfl | rfl | rfl | rfl | rfl | rfl <;>
  · go_enter Tryd.func34, Tryd.ntmps34
    go_wp2
    go_ret
    exact ⟨rfl, rfl⟩

def R0 (R : Nat) (v : Value) (w : World) : Prop := Rd R v 0 (.int .i64 0) (.slice none 0 0) (.bool false) w
def ResetPost (R : Nat) (v : Value) (w : World) (e : Ending) (w' : World) : Prop := e = .returned (.tuple #[]) ∧ R0 R v w' ∧ w.grownBy w' (some R)
theorem Rd.c2 {R : Nat} {buf a b c : Value} {pos : Int} {w : World} (h : Rd R buf pos a b c w) : w.cell? ⟨R, 2, none⟩ = some a := by unfold Rd at h; simp [World.cell?, h]
theorem Rd.c3 {R : Nat} {buf a b c : Value} {pos : Int} {w : World} (h : Rd R buf pos a b c w) : w.cell? ⟨R, 3, none⟩ = some b := by unfold Rd at h; simp [World.cell?, h]
theorem Rd.c4 {R : Nat} {buf a b c : Value} {pos : Int} {w : World} (h : Rd R buf pos a b c w) : w.cell? ⟨R, 4, none⟩ = some c := by unfold Rd at h; simp [World.cell?, h]

set_option maxHeartbeats 4000000 in
set_option maxRecDepth 100000 in
theorem reset_any (R : Nat) (p : Option Addr) (n c : Nat) (w : World) (hR : R0 R (.slice none 0 0) w) : Calls Tryd.prog 28 #[.pointer (some ⟨R, 0, none⟩), .slice p n c] w (ResetPost R (.slice p n c) w) := by
  have c0 := Rd.c0 hR
  have c1 := Rd.c1 hR
  have c2 := Rd.c2 hR
  have c3 := Rd.c3 hR
  have c4 := Rd.c4 hR
  have f0 := Rd.fz hR 0
  have f1 := Rd.fz hR 1
  have f2 := Rd.fz hR 2
  have f3 := Rd.fz hR 3
  have f4 := Rd.fz hR 4
  have HR := Lib.hid hR
  clear hR
  go_enter Tryd.func28, Tryd.ntmps28
  go_wp2
  go_end0
  have h : w.heap[R]? = some (.cells #[.slice none 0 0, .int .i64 0, .int .i64 0, .slice none 0 0, .bool false] 59 (0, 0)) := HR.out
  refine ⟨rfl, ?_, ?_⟩
  · exact K.heap_setCell_at (K.heap_setCell_at (K.heap_setCell_at (K.heap_setCell_at h (.bool false)) (.slice p n c)) (.int .i64 0)) (.int .i64 0)
  · exact grown_trans (grown_trans (grown_trans (grown_set w R 4 _) (grown_set _ R 0 _)) (grown_set _ R 1 _)) (grown_set _ R 2 _)

/-- The block of a publication. -/
def Pb (P : Nat) (v0 v1 v2 v3 v4 v5 v6 : Value) (w : World) : Prop := w.heap[P]? = some (.cells #[v0, v1, v2, v3, v4, v5, v6] 65 (0, 0))
theorem Pb.c0 {P : Nat} {v0 v1 v2 v3 v4 v5 v6 : Value} {w : World} (h : Pb P v0 v1 v2 v3 v4 v5 v6 w) : w.cell? ⟨P, 0, none⟩ = some v0 := by unfold Pb at h; simp [World.cell?, h]
theorem Pb.c1 {P : Nat} {v0 v1 v2 v3 v4 v5 v6 : Value} {w : World} (h : Pb P v0 v1 v2 v3 v4 v5 v6 w) : w.cell? ⟨P, 1, none⟩ = some v1 := by unfold Pb at h; simp [World.cell?, h]
theorem Pb.c2 {P : Nat} {v0 v1 v2 v3 v4 v5 v6 : Value} {w : World} (h : Pb P v0 v1 v2 v3 v4 v5 v6 w) : w.cell? ⟨P, 2, none⟩ = some v2 := by unfold Pb at h; simp [World.cell?, h]
theorem Pb.c3 {P : Nat} {v0 v1 v2 v3 v4 v5 v6 : Value} {w : World} (h : Pb P v0 v1 v2 v3 v4 v5 v6 w) : w.cell? ⟨P, 3, none⟩ = some v3 := by unfold Pb at h; simp [World.cell?, h]
theorem Pb.c4 {P : Nat} {v0 v1 v2 v3 v4 v5 v6 : Value} {w : World} (h : Pb P v0 v1 v2 v3 v4 v5 v6 w) : w.cell? ⟨P, 4, none⟩ = some v4 := by unfold Pb at h; simp [World.cell?, h]
theorem Pb.c5 {P : Nat} {v0 v1 v2 v3 v4 v5 v6 : Value} {w : World} (h : Pb P v0 v1 v2 v3 v4 v5 v6 w) : w.cell? ⟨P, 5, none⟩ = some v5 := by unfold Pb at h; simp [World.cell?, h]
theorem Pb.c6 {P : Nat} {v0 v1 v2 v3 v4 v5 v6 : Value} {w : World} (h : Pb P v0 v1 v2 v3 v4 v5 v6 w) : w.cell? ⟨P, 6, none⟩ = some v6 := by unfold Pb at h; simp [World.cell?, h]
theorem Pb.set0 {P : Nat} {v0 v1 v2 v3 v4 v5 v6 : Value} {w : World} (h : Pb P v0 v1 v2 v3 v4 v5 v6 w) (u : Value) : Pb P u v1 v2 v3 v4 v5 v6 (w.setCell ⟨P, 0, none⟩ u) := K.heap_setCell_at h u
theorem Pb.set1 {P : Nat} {v0 v1 v2 v3 v4 v5 v6 : Value} {w : World} (h : Pb P v0 v1 v2 v3 v4 v5 v6 w) (u : Value) : Pb P v0 u v2 v3 v4 v5 v6 (w.setCell ⟨P, 1, none⟩ u) := K.heap_setCell_at h u
theorem Pb.set3 {P : Nat} {v0 v1 v2 v3 v4 v5 v6 : Value} {w : World} (h : Pb P v0 v1 v2 v3 v4 v5 v6 w) (u : Value) : Pb P v0 v1 v2 u v4 v5 v6 (w.setCell ⟨P, 3, none⟩ u) := K.heap_setCell_at h u
theorem Pb.set4 {P : Nat} {v0 v1 v2 v3 v4 v5 v6 : Value} {w : World} (h : Pb P v0 v1 v2 v3 v4 v5 v6 w) (u : Value) : Pb P v0 v1 v2 v3 u v5 v6 (w.setCell ⟨P, 4, none⟩ u) := K.heap_setCell_at h u
theorem Pb.set5 {P : Nat} {v0 v1 v2 v3 v4 v5 v6 : Value} {w : World} (h : Pb P v0 v1 v2 v3 v4 v5 v6 w) (u : Value) : Pb P v0 v1 v2 v3 v4 u v6 (w.setCell ⟨P, 5, none⟩ u) := K.heap_setCell_at h u
theorem Pb.fz {P : Nat} {v0 v1 v2 v3 v4 v5 v6 : Value} {w : World} (h : Pb P v0 v1 v2 v3 v4 v5 v6 w) (j : Nat) : w.frozen? ⟨P, j, none⟩ = false := by unfold Pb at h; simp [World.frozen?, h]
theorem Pb.lt {P : Nat} {v0 v1 v2 v3 v4 v5 v6 : Value} {w : World} (h : Pb P v0 v1 v2 v3 v4 v5 v6 w) : P < w.heap.size := (Array.getElem?_eq_some_iff.1 h).1
theorem Pb.grow {P R : Nat} {v0 v1 v2 v3 v4 v5 v6 : Value} {w w' : World} (h : Pb P v0 v1 v2 v3 v4 v5 v6 w) (hg : w.grownBy w' (some R)) (hne : P ≠ R) : Pb P v0 v1 v2 v3 v4 v5 v6 w' := (hg.block _ h.lt (by simpa using hne)).trans h
theorem Pb.below {P B : Nat} {v0 v1 v2 v3 v4 v5 v6 : Value} {w w' : World} (h : Pb P v0 v1 v2 v3 v4 v5 v6 w) (hb : Below B w w') (hP : P < B) : Pb P v0 v1 v2 v3 v4 v5 v6 w' := (hb.block _ hP).trans h
theorem Rd.setP {R P j : Nat} {buf a b c : Value} {pos : Int} {w : World} (h : Rd R buf pos a b c w) (hne : R ≠ P) (u : Value) : Rd R buf pos a b c (w.setCell ⟨P, j, none⟩ u) := (Below.heap_setCell _ _ _ _ hne).trans h
theorem Pb.setR {R P : Nat} {v0 v1 v2 v3 v4 v5 v6 : Value} {w : World} (h : Pb P v0 v1 v2 v3 v4 v5 v6 w) (hne : P ≠ R) (j : Nat) (u : Value) : Pb P v0 v1 v2 v3 v4 v5 v6 (w.setCell ⟨R, j, none⟩ u) := (Below.heap_setCell _ _ _ _ hne).trans h

/-- what reading a PUBLISH leaves -/
def ParsePost (P : Nat) (B : Nat) (ab o m il pn : Nat) (id fl : Nat) (w : World) (e : Ending) (w' : World) : Prop :=
  ∃ sub sz c0 msg, e = .returned .nilIface ∧ Pb P (.slice (some ⟨ab, o + 2, none⟩) m c0) sub (.slice none 0 0) msg sz (.int .u16 id) (.int .u8 fl) w' ∧ Below B w w' ∧
    ((pn = 0 ∧ msg = .slice none 0 0) ∨ (0 < pn ∧ ∃ c1, msg = .slice (some ⟨ab, o + (2 + m + il), none⟩) pn c1))

set_option maxHeartbeats 16000000 in
set_option maxRecDepth 100000 in
theorem parse_any (C R P B ab o n cap fl id pn il : Nat) (l : List UInt8) (t : ByteArray) (w : World) (hP : Plain t false) (ht : t.size ≤ 100) (hfl : fl < 6) (hl : l.length = n) (hn : n ≤ 100000) (hnc : n ≤ cap)
    (hab : ab < B) (hBR : B ≤ R) (hRP : R < P)
    (hB : BytesAt w ab o l) (hT : BytesAt w ab (o + 2) t.data.toList) (hm : (l.getD 0 0).toNat * 256 + (l.getD 1 0).toNat = t.size)
    (hil : (fl / 2 = 0 ∧ il = 0 ∧ id = 0) ∨ (0 < fl / 2 ∧ il = 2 ∧ 0 < id ∧ (l.getD (2 + t.size) 0).toNat * 256 + (l.getD (2 + t.size + 1) 0).toNat = id)) (hnn : n = 2 + t.size + il + pn)
    (hR : R0 R (.slice (some ⟨ab, o, none⟩) n cap) w) (hPb : Pb P (.slice none 0 0) (.slice none 0 0) (.slice none 0 0) (.slice none 0 0) (.int .i64 0) (.int .u16 0) (.int .u8 fl) w) :
    Calls Tryd.prog 30 #[.pointer (some ⟨C, 0, none⟩), .pointer (some ⟨R, 0, none⟩), .int .i64 n, .pointer (some ⟨P, 0, none⟩)] w (ParsePost P B ab o t.size il pn id fl w) := by
  have hm0 := hP.1
  have p6 := hPb.c6
  have r1 := Rd.c1 hR
  have HP := Lib.hid hP
  have HL := Lib.hid hl
  have HB := Lib.hid hB
  have HT := Lib.hid hT
  have HM := Lib.hid hm
  have HI := Lib.hid hil
  have HN := Lib.hid hnn
  have hn2 : 2 + t.size + il ≤ n := by omega
  have HR := Lib.hid hR
  have HPb := Lib.hid hPb
  clear hP hl hB hT hm hil hR hPb hnn
  go_enter Tryd.func30, Tryd.ntmps30
  go_wp2_with fail
  refine (qos_any fl hfl w).mono ?_
  rintro e w1 ⟨rfl, rfl⟩
  have hq : fl / 2 ≤ 2 := by omega
  go_wp2_with fail
  refine (readBytes_any R ab o n cap 0 t.size l _ _ _ _ w1 HL.out hn hnc (by omega) hm0 HM.out (by omega) HB.out HR.out).mono ?_
  rintro e w2 ⟨rfl, hR2, hG2⟩
  have hP2 := HPb.out.grow hG2 (by omega)
  have hW2 : Below B w1 w2 := (Below.refl _ _).grown hG2 (by have := HR.out.lt; omega) (fun k hk => by cases hk; exact hBR)
  have p0 := hP2.c0
  have f0 := hP2.fz 0
  have HR2 := Lib.hid hR2
  have HP2 := Lib.hid hP2
  have HW2 := Lib.hid hW2
  clear hR2 hG2 hP2 hW2 r1 p6
  go_wp2_with fail
  have hP3 := HP2.out.set0 (.slice (some ⟨ab, o + 2, none⟩) t.size (cap - 2))
  have hR3 := HR2.out.setP (P := P) (j := 0) (by omega) (.slice (some ⟨ab, o + 2, none⟩) t.size (cap - 2))
  have hW3 : Below B w1 (w2.setCell ⟨P, 0, none⟩ (.slice (some ⟨ab, o + 2, none⟩) t.size (cap - 2))) := HW2.out.setCell (by simp; omega) _
  generalize w2.setCell ⟨P, 0, none⟩ (.slice (some ⟨ab, o + 2, none⟩) t.size (cap - 2)) = w3 at hP3 hR3 hW3 ⊢
  have hT3 := HT.out.below hW3 hab
  have HP3 := Lib.hid hP3
  have HR3 := Lib.hid hR3
  have HW3 := Lib.hid hW3
  clear hP3 hR3 hW3 p0 f0
  refine (validate_any t t.size ab (o + 2) (cap - 2) _ w3 rfl (by omega) (by omega) hT3 HP.out).mono ?_
  rintro e w4 ⟨rfl, q4, rfl⟩
  have p0 := HP3.out.c0
  clear hT3
  go_wp2_with fail
  have hT4 : BytesAt (w3.drewN q4) ab (o + 2) t.data.toList := HT.out.below (K.below_drewN HW3.out q4) hab
  refine (conv32 t ab (o + 2) t.size (cap - 2) (w3.drewN q4) HP.out rfl (by omega) (by omega) (by have := HR3.out.lt; show ab < w3.heap.size; omega) hT4).mono ?_
  rintro e w5 ⟨rb, ro, rc, rfl, _, _, hb5'⟩
  have hb5 : Below w3.heap.size w3 w5 := ⟨hb5'.os, hb5'.tape, hb5'.output, hb5'.size, hb5'.block⟩
  clear hb5'
  have hP5 : Pb P (.slice (some ⟨ab, o + 2, none⟩) t.size (cap - 2)) (.slice none 0 0) (.slice none 0 0) (.slice none 0 0) (.int .i64 0) (.int .u16 0) (.int .u8 fl) w5 := HP3.out.below hb5 HP3.out.lt
  have hR5 := HR3.out.below hb5 HR3.out.lt
  have hW5 : Below B w1 w5 := HW3.out.trans (hb5.mono (by have := HR3.out.lt; omega))
  have p1 := hP5.c1
  have f1 := hP5.fz 1
  have HP5 := Lib.hid hP5
  have HR5 := Lib.hid hR5
  have HW5 := Lib.hid hW5
  clear hT4 hb5 hP5 hR5 hW5 p0 HP3 HR3 HW3 HP2 HR2 HW2
  -- BEHIND
  have hne1 : R ≠ P := by omega
  have hne2 : P ≠ R := by omega
  rcases HI.out with ⟨hq0, rfl, rfl⟩ | ⟨hq0, rfl, hid0, hid⟩
  · have hq1 : fl ≤ 1 := by omega
    clear hq0
    have p5 := HP5.out.c5
    have p4 := HP5.out.c4
    have f5 := HP5.out.fz 5
    have f4 := HP5.out.fz 4
    have r1 := HR5.out.c1
    by_cases hpn : 0 < pn
    · have hp1 : 2 + t.size < n := by have := HN.out; omega
      go_wp2_with fail
      have hP21 := (((HP5.out.set1 (.slice (some ⟨rb, ro, none⟩) t.size rc)).set5 (.int .u16 0)).set4 (.int .i64 ((n : Int) - (2 + (t.size : Int)))))
      have hR21 := (((HR5.out.setP (P := P) (j := 1) (by omega) (.slice (some ⟨rb, ro, none⟩) t.size rc)).setP (P := P) (j := 5) (by omega) (.int .u16 0)).setP (P := P) (j := 4) (by omega) (.int .i64 ((n : Int) - (2 + (t.size : Int)))))
      have hW21 : Below B w1 (((w5.setCell ⟨P, 1, none⟩ (.slice (some ⟨rb, ro, none⟩) t.size rc)).setCell ⟨P, 5, none⟩ (.int .u16 0)).setCell ⟨P, 4, none⟩ (.int .i64 ((n : Int) - (2 + (t.size : Int))))) := (Below.setCell (p := ⟨P, 4, none⟩) (Below.setCell (p := ⟨P, 5, none⟩) (Below.setCell (p := ⟨P, 1, none⟩) HW5.out (by simp; omega) (.slice (some ⟨rb, ro, none⟩) t.size rc)) (by simp; omega) (.int .u16 0)) (by simp; omega) (.int .i64 ((n : Int) - (2 + (t.size : Int)))))
      generalize (((w5.setCell ⟨P, 1, none⟩ (.slice (some ⟨rb, ro, none⟩) t.size rc)).setCell ⟨P, 5, none⟩ (.int .u16 0)).setCell ⟨P, 4, none⟩ (.int .i64 ((n : Int) - (2 + (t.size : Int))))) = u1 at hP21 hR21 hW21 ⊢
      have HP21 := Lib.hid hP21
      have HR21 := Lib.hid hR21
      have HW21 := Lib.hid hW21
      clear hP21 hR21 hW21
      clear p4 p5 f4 f5 r1 p1 f1
      have p4 := HP21.out.c4
      have r1 := HR21.out.c1
      have g1 := HR21.out.fz 1
      go_still_tail 9, (by kernel_rfl)
      change wpList _ _ _ _ _ u1.drew
      have hP22 := HP21.out.below (Below.drew (Below.refl _ u1)) HP21.out.lt
      have hR22 := HR21.out.below (Below.drew (Below.refl _ u1)) HR21.out.lt
      have hW22 := Below.drew HW21.out
      generalize u1.drew = u2 at hP22 hR22 hW22 ⊢
      have HP22 := Lib.hid hP22
      have HR22 := Lib.hid hR22
      have HW22 := Lib.hid hW22
      clear hP22 hR22 hW22 p4 r1 g1
      have r1 := HR22.out.c1
      have g1 := HR22.out.fz 1
      go_wp2_with fail
      have hR23 := HR22.out.set ((2 + (t.size : Int)) + ((n : Int) - (2 + (t.size : Int))))
      have hP23 := HP22.out.setR (R := R) (by omega) 1 (.int .i64 ((2 + (t.size : Int)) + ((n : Int) - (2 + (t.size : Int)))))
      have hW23 : Below B w1 (u2.setCell ⟨R, 1, none⟩ (.int .i64 ((2 + (t.size : Int)) + ((n : Int) - (2 + (t.size : Int)))))) := HW22.out.setCell (by simp; omega) _
      generalize u2.setCell ⟨R, 1, none⟩ (.int .i64 ((2 + (t.size : Int)) + ((n : Int) - (2 + (t.size : Int))))) = u3 at hP23 hR23 hW23 ⊢
      have HP23 := Lib.hid hP23
      have HR23 := Lib.hid hR23
      have HW23 := Lib.hid hW23
      clear hP23 hR23 hW23 r1 g1
      have r0 := HR23.out.c0
      have r1 := HR23.out.c1
      have k1 : (0 : Int) ≤ 2 + (t.size : Int) := by omega
      have k2 : 2 + (t.size : Int) ≤ (2 + (t.size : Int)) + ((n : Int) - (2 + (t.size : Int))) := by omega
      have k3 : (2 + (t.size : Int)) + ((n : Int) - (2 + (t.size : Int))) ≤ (cap : Int) := by omega
      go_still_tail 11, (by kernel_rfl)
      change wpList _ _ _ _ _ u3.drew
      have hP24 := HP23.out.below (Below.drew (Below.refl _ u3)) HP23.out.lt
      have hW24 := Below.drew HW23.out
      generalize u3.drew = u4 at hP24 hW24 ⊢
      have HP24 := Lib.hid hP24
      have HW24 := Lib.hid hW24
      clear hP24 hW24 r0 r1
      have p3 := HP24.out.c3
      have f3 := HP24.out.fz 3
      go_wp2_with fail
      go_ret
      have e1 : (2 + (t.size : Int)).toNat = 2 + t.size := by omega
      have e2 : ((2 + (t.size : Int)) + ((n : Int) - (2 + (t.size : Int)))).toNat - (2 + t.size) = pn := by have := HN.out; omega
      refine ⟨_, _, _, _, rfl, HP24.out.set3 _, HW24.out.setCell (by simp; omega) _, Or.inr ⟨hpn, cap - (2 + t.size), ?_⟩⟩
      have e3 : n - (2 + t.size) = pn := by have := HN.out; omega
      rw [e3]
      try rfl
    · have hp1 : n = 2 + t.size := by have := HN.out; omega
      have p3 := HP5.out.c3
      have f3 := HP5.out.fz 3
      have HN1 := Lib.hid hp1
      have hz1 : (n : Int) - (2 + (t.size : Int)) = 0 := by omega
      clear hp1
      go_wp2_with fail
      go_ret
      exact ⟨_, _, _, _, rfl, ((((HP5.out.set1 (.slice (some ⟨rb, ro, none⟩) t.size rc)).set5 (.int .u16 0)).set4 (.int .i64 0)).set3 (.slice none 0 0)), (Below.setCell (p := ⟨P, 3, none⟩) (Below.setCell (p := ⟨P, 4, none⟩) (Below.setCell (p := ⟨P, 5, none⟩) (Below.setCell (p := ⟨P, 1, none⟩) HW5.out (by simp; omega) (.slice (some ⟨rb, ro, none⟩) t.size rc)) (by simp; omega) (.int .u16 0)) (by simp; omega) (.int .i64 0)) (by simp; omega) (.slice none 0 0)), Or.inl ⟨by omega, rfl⟩⟩
  · have hq1 : 2 ≤ fl := by omega
    have HID := Lib.hid hid
    have hidl : id < 65536 := by have := (l.getD (2 + t.size) 0).toNat_lt; have := (l.getD (2 + t.size + 1) 0).toNat_lt; omega
    clear hid hq0
    go_wp2_with fail
    have hP6 := (HP5.out.set1 (.slice (some ⟨rb, ro, none⟩) t.size rc))
    have hR6 := (HR5.out.setP (P := P) (j := 1) (by omega) (.slice (some ⟨rb, ro, none⟩) t.size rc))
    have hW6 : Below B w1 (w5.setCell ⟨P, 1, none⟩ (.slice (some ⟨rb, ro, none⟩) t.size rc)) := (Below.setCell (p := ⟨P, 1, none⟩) HW5.out (by simp; omega) (.slice (some ⟨rb, ro, none⟩) t.size rc))
    generalize (w5.setCell ⟨P, 1, none⟩ (.slice (some ⟨rb, ro, none⟩) t.size rc)) = w6 at hP6 hR6 hW6 ⊢
    have HP6 := Lib.hid hP6
    have HR6 := Lib.hid hR6
    have HW6 := Lib.hid hW6
    clear hP6 hR6 hW6
    have hR6 : Rd R (.slice (some ⟨ab, o, none⟩) n cap) ((2 + t.size : Nat) : Int) (.int .i64 0) (.slice none 0 0) (.bool false) w6 := by
      have h := HR6.out
      rw [show ((0 : Nat) : Int) + 2 + (t.size : Int) = ((2 + t.size : Nat) : Int) from by omega] at h
      exact h
    refine (readUint16_any R ab o n cap (2 + t.size) l _ _ _ _ w6 HL.out hn hnc (by omega) (by omega) (HB.out.below HW6.out hab) hR6).mono ?_
    rintro e w7 ⟨rfl, hR7, hG7⟩
    have hP7 := HP6.out.grow hG7 (by omega)
    have hW7 : Below B w1 w7 := HW6.out.grown hG7 (by have := HR6.out.lt; omega) (fun k hk => by cases hk; exact hBR)
    rw [show ((l.getD (2 + t.size) 0).toNat : Int) * 256 + ((l.getD (2 + t.size + 1) 0).toNat : Int) = (id : Int) from by have := HID.out; omega]
    have HP7 := Lib.hid hP7
    have HR7 := Lib.hid (show Rd R (.slice (some ⟨ab, o, none⟩) n cap) (2 + (t.size : Int) + 2) (.int .i64 0) (.slice none 0 0) (.bool false) w7 from by
      have h := hR7
      rw [show ((2 + t.size : Nat) : Int) + 2 = 2 + (t.size : Int) + 2 from by omega] at h
      exact h)
    have HW7 := Lib.hid hW7
    have hidn : ((id : Int) == 0) = false := by simp; omega
    clear hR6 hR7 hG7 hP7 hW7 p1 f1
    have p5 := HP7.out.c5
    have p4 := HP7.out.c4
    have f5 := HP7.out.fz 5
    have f4 := HP7.out.fz 4
    have r1 := HR7.out.c1
    by_cases hpn : 0 < pn
    · have hp1 : 2 + t.size + 2 < n := by have := HN.out; omega
      go_wp2_with fail
      have hP21 := ((HP7.out.set5 (.int .u16 id)).set4 (.int .i64 ((n : Int) - (2 + (t.size : Int) + 2))))
      have hR21 := ((HR7.out.setP (P := P) (j := 5) (by omega) (.int .u16 id)).setP (P := P) (j := 4) (by omega) (.int .i64 ((n : Int) - (2 + (t.size : Int) + 2))))
      have hW21 : Below B w1 ((w7.setCell ⟨P, 5, none⟩ (.int .u16 id)).setCell ⟨P, 4, none⟩ (.int .i64 ((n : Int) - (2 + (t.size : Int) + 2)))) := (Below.setCell (p := ⟨P, 4, none⟩) (Below.setCell (p := ⟨P, 5, none⟩) HW7.out (by simp; omega) (.int .u16 id)) (by simp; omega) (.int .i64 ((n : Int) - (2 + (t.size : Int) + 2))))
      generalize ((w7.setCell ⟨P, 5, none⟩ (.int .u16 id)).setCell ⟨P, 4, none⟩ (.int .i64 ((n : Int) - (2 + (t.size : Int) + 2)))) = u1 at hP21 hR21 hW21 ⊢
      have HP21 := Lib.hid hP21
      have HR21 := Lib.hid hR21
      have HW21 := Lib.hid hW21
      clear hP21 hR21 hW21
      clear p4 p5 f4 f5 r1
      have p4 := HP21.out.c4
      have r1 := HR21.out.c1
      have g1 := HR21.out.fz 1
      go_still_tail 9, (by kernel_rfl)
      change wpList _ _ _ _ _ u1.drew
      have hP22 := HP21.out.below (Below.drew (Below.refl _ u1)) HP21.out.lt
      have hR22 := HR21.out.below (Below.drew (Below.refl _ u1)) HR21.out.lt
      have hW22 := Below.drew HW21.out
      generalize u1.drew = u2 at hP22 hR22 hW22 ⊢
      have HP22 := Lib.hid hP22
      have HR22 := Lib.hid hR22
      have HW22 := Lib.hid hW22
      clear hP22 hR22 hW22 p4 r1 g1
      have r1 := HR22.out.c1
      have g1 := HR22.out.fz 1
      go_wp2_with fail
      have hR23 := HR22.out.set ((2 + (t.size : Int) + 2) + ((n : Int) - (2 + (t.size : Int) + 2)))
      have hP23 := HP22.out.setR (R := R) (by omega) 1 (.int .i64 ((2 + (t.size : Int) + 2) + ((n : Int) - (2 + (t.size : Int) + 2))))
      have hW23 : Below B w1 (u2.setCell ⟨R, 1, none⟩ (.int .i64 ((2 + (t.size : Int) + 2) + ((n : Int) - (2 + (t.size : Int) + 2))))) := HW22.out.setCell (by simp; omega) _
      generalize u2.setCell ⟨R, 1, none⟩ (.int .i64 ((2 + (t.size : Int) + 2) + ((n : Int) - (2 + (t.size : Int) + 2)))) = u3 at hP23 hR23 hW23 ⊢
      have HP23 := Lib.hid hP23
      have HR23 := Lib.hid hR23
      have HW23 := Lib.hid hW23
      clear hP23 hR23 hW23 r1 g1
      have r0 := HR23.out.c0
      have r1 := HR23.out.c1
      have k1 : (0 : Int) ≤ 2 + (t.size : Int) + 2 := by omega
      have k2 : 2 + (t.size : Int) + 2 ≤ (2 + (t.size : Int) + 2) + ((n : Int) - (2 + (t.size : Int) + 2)) := by omega
      have k3 : (2 + (t.size : Int) + 2) + ((n : Int) - (2 + (t.size : Int) + 2)) ≤ (cap : Int) := by omega
      go_still_tail 11, (by kernel_rfl)
      change wpList _ _ _ _ _ u3.drew
      have hP24 := HP23.out.below (Below.drew (Below.refl _ u3)) HP23.out.lt
      have hW24 := Below.drew HW23.out
      generalize u3.drew = u4 at hP24 hW24 ⊢
      have HP24 := Lib.hid hP24
      have HW24 := Lib.hid hW24
      clear hP24 hW24 r0 r1
      have p3 := HP24.out.c3
      have f3 := HP24.out.fz 3
      go_wp2_with fail
      go_ret
      have e1 : (2 + (t.size : Int) + 2).toNat = 2 + t.size + 2 := by omega
      have e2 : ((2 + (t.size : Int) + 2) + ((n : Int) - (2 + (t.size : Int) + 2))).toNat - (2 + t.size + 2) = pn := by have := HN.out; omega
      refine ⟨_, _, _, _, rfl, HP24.out.set3 _, HW24.out.setCell (by simp; omega) _, Or.inr ⟨hpn, cap - (2 + t.size + 2), ?_⟩⟩
      have e3 : n - (2 + t.size + 2) = pn := by have := HN.out; omega
      rw [e3]
      try rfl
    · have hp1 : n = 2 + t.size + 2 := by have := HN.out; omega
      have p3 := HP7.out.c3
      have f3 := HP7.out.fz 3
      have HN1 := Lib.hid hp1
      have hz1 : (n : Int) - (2 + (t.size : Int) + 2) = 0 := by omega
      clear hp1
      go_wp2_with fail
      go_ret
      exact ⟨_, _, _, _, rfl, (((HP7.out.set5 (.int .u16 id)).set4 (.int .i64 0)).set3 (.slice none 0 0)), (Below.setCell (p := ⟨P, 3, none⟩) (Below.setCell (p := ⟨P, 4, none⟩) (Below.setCell (p := ⟨P, 5, none⟩) HW7.out (by simp; omega) (.int .u16 id)) (by simp; omega) (.int .i64 0)) (by simp; omega) (.slice none 0 0)), Or.inl ⟨by omega, rfl⟩⟩

end Go.Proofs.YtjaodjeommkjgaaDoor
