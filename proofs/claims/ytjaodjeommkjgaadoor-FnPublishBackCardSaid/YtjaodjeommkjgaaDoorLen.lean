/-
  MQTT's remaining length: contracts of the functions that read and write it (server.ReadVarInt, impl.ReadLength, spec.ReadLength, spec.LengthKnown) and of the law's helpers, each for every input that its callers hand on.
-/
import Derived.Test.YtjaodjeommkjgaaDoorProg
import Derived.Test.YtjaodjeommkjgaaDoorVi
import Derived.Test.YtjaodjeommkjgaaDoorKit
namespace Go.Proofs.YtjaodjeommkjgaaDoor
open Go.RowKit K


theorem and127 (b : UInt8) : bits .and .u8 (b.toNat : Int) 127 = ((b.toNat % 128 : Nat) : Int) := by
  have h : ∀ n : Fin 256, bits .and .u8 ((n.val : Nat) : Int) 127 = ((n.val % 128 : Nat) : Int) := by decide +kernel
  exact h ⟨b.toNat, b.toNat_lt⟩
theorem and128 (b : UInt8) : (bits .and .u8 (b.toNat : Int) 128 == 0) = decide (b.toNat < 128) := by
  have h : ∀ n : Fin 256, (bits .and .u8 ((n.val : Nat) : Int) 128 == 0) = decide (n.val < 128) := by decide +kernel
  exact h ⟨b.toNat, b.toNat_lt⟩





def viVal (te : TypeId) (ve : Value) : Vi.Res → Value
  | .done v _ => .tuple #[.int .i64 v, .bool true, .nilIface]
  | .more => .tuple #[.int .i64 0, .bool false, .nilIface]
  | .err => .tuple #[.int .i64 0, .bool false, .iface te ve]

def RviPost (bs : List UInt8) (n cap g ab ao : Nat) (v2 v3 v4 : Value) (w : World) (te : TypeId) (ve : Value) (e : Ending) (w' : World) : Prop :=
  ∃ k : Nat, Below g w w' ∧ w'.heap[g]? = some (.cells #[.slice (some ⟨ab, ao, none⟩) n cap, .int .i64 k, v2, v3, v4] 59 (0, 0)) ∧
    e = .returned (viVal te ve (Vi.read bs)) ∧ (∀ v u, Vi.read bs = .done v u → k = u)



set_option maxHeartbeats 400000 in
theorem readVarInt_any (bs : List UInt8) (n cap g : Nat) (ab ao : Nat) (w : World) (v2 v3 v4 : Value) (hlen : bs.length = n) (hn : n ≤ 1000000000000)
   (hg : w.heap[g]? = some (.cells #[.slice (some ⟨ab, ao, none⟩) n cap, .int .i64 0, v2, v3, v4] 59 (0, 0))) (hab : ab < g) (hg0 : 0 < g)
   (hc : ∀ j, j < n → w.cell? ⟨ab, ao + j, none⟩ = some (.int .u8 ((bs.getD j 0).toNat : Int)))
   (te : TypeId) (ve : Value) (he : w.cell? ⟨0, 0, none⟩ = some (.iface te ve)) :
  Calls Tryd.prog 29 #[.pointer (some ⟨g, 0, none⟩)] w (RviPost bs n cap g ab ao v2 v3 v4 w te ve) := by
  have HL := Lib.hid hlen
  have HC := Lib.hid hc
  have HG := Lib.hid hg
  clear hlen hc hg
  go_enter Tryd.func29, Tryd.ntmps29
  go_wp2_with fail
  go_loopg [5, 6] (n + 1) (fun gk m v wr => ∃ k mm vv : Nat, gk + k = n + 1 ∧ k ≤ n ∧ m = .int .i64 mm ∧ v = .int .i64 vv ∧ Vi.vi 0 0 1 bs = Vi.vi k vv mm (bs.drop k) ∧ 1 ≤ mm ∧ mm ≤ 2097152 ∧ vv < mm ∧
     wr.heap[g]? = some (.cells #[.slice (some ⟨ab, ao, none⟩) n cap, .int .i64 k, v2, v3, v4] 59 (0, 0)) ∧ Below g w wr)
  case atStart => exact ⟨0, 1, 0, by omega, by omega, rfl, rfl, by simp, by omega, by omega, by omega, HG.out, Below.refl _ _⟩
  case round =>
    obtain ⟨k, mm, vv, hk1, hk, rfl, rfl, hvi, h1, h2, h3, hgr, hb⟩ := hrel
    have HVI := Lib.hid hvi
    have HK1 := Lib.hid hk1
    have HGR := Lib.hid hgr
    have c0 : wr.cell? ⟨g, 0, none⟩ = some (.slice (some ⟨ab, ao, none⟩) n cap) := by simp [World.cell?, hgr]
    have c1 : wr.cell? ⟨g, 1, none⟩ = some (.int .i64 k) := by simp [World.cell?, hgr]
    have f1 : wr.frozen? ⟨g, 1, none⟩ = false := by simp [World.frozen?, hgr]
    clear hvi hk1 hgr
    by_cases hlt : k < n
    · have ht : ((k : Int) != (n : Int)) = true := by simp; omega
      obtain ⟨b, hb0⟩ : ∃ b : UInt8, b = bs.getD k 0 := ⟨_, rfl⟩
      have c2 : wr.cell? ⟨ab, ao + k, none⟩ = some (.int .u8 (b.toNat : Int)) := by rw [hb0, ← HC.out k hlt]; exact hb.cell hab
      have HV : Hid (Vi.vi 0 0 1 bs = Vi.vi k vv mm (b :: bs.drop (k + 1))) := by
        rw [hb0, ← getD_drop bs k (by rw [HL.out]; exact hlt)]; exact HVI.out
      clear hb0 HVI
      have a1 := and127 b
      have a2 := and128 b
      have b1 := b.toNat_lt
      have p0 : b.toNat % 128 * mm ≤ 127 * mm := Nat.mul_le_mul_right _ (by omega)
      have p1 : (0 : Int) ≤ (b.toNat : Int) % 128 * (mm : Int) := by have := Int.mul_nonneg (a := (b.toNat : Int) % 128) (b := mm) (by omega) (by omega); exact this
      have p2 : (b.toNat : Int) % 128 * (mm : Int) ≤ 127 * (mm : Int) := by
        have e : ((b.toNat % 128 * mm : Nat) : Int) = (b.toNat : Int) % 128 * (mm : Int) := by simp
        omega
      have he2 : ∀ q, ((wr.drewN q).setCell ⟨g, 1, none⟩ (.int .i64 ((k : Int) + 1))).cell? ⟨0, 0, none⟩ = some (.iface te ve) := by
        intro q
        rw [World.cell?_setCell_other _ _ _ _ (by intro h; injection h with h; omega), ← he]; exact hb.cell hg0
      have hwb : ∀ q, Below g w ((wr.drewN q).setCell ⟨g, 1, none⟩ (.int .i64 ((k : Int) + 1))) := fun q =>
        (below_drewN hb q).setCell (Nat.le_refl _) _
      have hwg : ∀ q, ((wr.drewN q).setCell ⟨g, 1, none⟩ (.int .i64 ((k : Int) + 1))).heap[g]? = some (.cells #[.slice (some ⟨ab, ao, none⟩) n cap, .int .i64 ((k : Int) + 1), v2, v3, v4] 59 (0, 0)) := fun q =>
        heap_setCell_at (w := wr.drewN q) HGR.out _
      have HWB := Lib.hid hwb
      have HWG := Lib.hid hwg
      clear hwb hwg
      go_wp2_with fail
      go_quiet (fail)
      go_wp2_with fail
      go_quiet (fail)
      go_wp2_with fail
      · have hb7 : b.toNat < 128 := by assumption
        go_ret3
        have hr : Vi.read bs = .done (vv + b.toNat % 128 * mm) (k + 1) := by rw [Vi.read, HV.out, Vi.vi, if_pos hb7]
        refine ⟨k + 1, HWB.out _, HWG.out _, ?_, ?_⟩
        · rw [hr]; simp [viVal]
        · intro v u h; rw [hr] at h; injection h
      · have hb7 : ¬ b.toNat < 128 := by assumption
        have hm7 : (2097152 : Int) < (mm : Int) * 128 := by assumption
        go_quiet (fail)
        go_wp2_with fail
        go_ret3
        have hr : Vi.read bs = .err := by rw [Vi.read, HV.out, Vi.vi, if_neg hb7, if_pos (by omega)]
        refine ⟨k + 1, (HWB.out _).trans ⟨rfl, rfl, rfl, Nat.le_refl _, fun _ _ => rfl⟩, HWG.out _, ?_, ?_⟩
        · rw [hr]; rfl
        · intro v u h; rw [hr] at h; cases h
      · have hb7 : ¬ b.toNat < 128 := by assumption
        go_roundg (n - k)
        case measure => have := HK1.out; omega
        case rel =>
          have hm7 : (mm : Int) * 128 ≤ 2097152 := by assumption
          refine ⟨k + 1, mm * 128, vv + b.toNat % 128 * mm, by omega, by omega, by go_num, by simp, ?_, by omega, by omega, by omega, HWG.out _, HWB.out _⟩
          rw [HV.out, Vi.vi, if_neg hb7, if_neg (by omega)]
    · have ht : ((k : Int) != (n : Int)) = false := by simp; omega
      go_wp2_with fail
      go_quiet (fail)
      go_wp2_with fail
      go_ret3
      refine ⟨k, hb.trans ⟨rfl, rfl, rfl, Nat.le_refl _, fun _ _ => rfl⟩, HGR.out, ?_, ?_⟩
      · have hk2 : k = n := by omega
        have : bs.drop k = [] := List.drop_eq_nil_of_le (by rw [HL.out]; omega)
        rw [Vi.read, HVI.out, this]; rfl
      · intro v u h
        have : bs.drop k = [] := List.drop_eq_nil_of_le (by rw [HL.out]; omega)
        rw [Vi.read, HVI.out, this] at h; cases h



def viN : Vi.Res → Int
  | .done v _ => v
  | _ => 0
def viB : Vi.Res → Bool
  | .done _ _ => true
  | _ => false
def viE (te : TypeId) (ve : Value) : Vi.Res → Value
  | .err => .iface te ve
  | _ => .nilIface
theorem viVal_eq (te : TypeId) (ve : Value) (r : Vi.Res) : viVal te ve r = .tuple #[.int .i64 (viN r), .bool (viB r), viE te ve r] := by cases r <;> rfl

def RvPost (bs : List UInt8) (te : TypeId) (ve : Value) (w : World) (e : Ending) (w' : World) : Prop :=
  Below w.heap.size w w' ∧ ∃ k : Nat, e = .returned (.tuple #[.int .i64 (viN (Vi.read bs)), .int .i64 k, .bool (viB (Vi.read bs)), viE te ve (Vi.read bs)]) ∧ ∀ v u, Vi.read bs = .done v u → k = u





set_option maxHeartbeats 400000 in
theorem readVarInt21_any (bs : List UInt8) (n cap : Nat) (ab ao : Nat) (w : World) (hlen : bs.length = n) (hn : n ≤ 1000000000000) (hab : ab < w.heap.size)
   (hc : ∀ j, j < n → w.cell? ⟨ab, ao + j, none⟩ = some (.int .u8 ((bs.getD j 0).toNat : Int)))
   (te : TypeId) (ve : Value) (he : w.cell? ⟨0, 0, none⟩ = some (.iface te ve)) :
  Calls Tryd.prog 21 #[.slice (some ⟨ab, ao, none⟩) n cap] w (RvPost bs te ve w) := by
  have HL := Lib.hid hlen
  have HC := Lib.hid hc
  clear hlen hc
  go_enter Tryd.func21, Tryd.ntmps21
  go_wp2_with (first | go_in)
  go_end0
  go_wp2_with fail
  refine (readVarInt_any bs n cap w.heap.size ab ao _ (.int .i64 0) (.slice none 0 0) (.bool false) HL.out hn (heap_alloc_at _ _) hab (by omega) ?_ te ve ?_).mono ?_
  · intro j hj
    rw [World.cell?_alloc_past _ _ _ (by exact hab)]; exact HC.out j hj
  · rw [World.cell?_alloc_past _ _ _ (by show 0 < w.heap.size; omega)]; exact he
  · rintro e w' ⟨k, hb, hgw, rfl, hk⟩
    have hb2 : Below w.heap.size w w' := ((Below.refl _ _).alloc (Nat.le_refl _) _).trans hb
    have c1 : w'.cell? ⟨w.heap.size, 1, none⟩ = some (.int .i64 k) := by simp [World.cell?, hgw]
    have HK := Lib.hid hk
    clear hgw hb hk
    rw [viVal_eq]
    generalize hn0 : viN (Vi.read bs) = n0
    generalize hb0 : viB (Vi.read bs) = b0
    generalize he0 : viE te ve (Vi.read bs) = e0
    have HN := Lib.hid hn0
    have HB := Lib.hid hb0
    have HE := Lib.hid he0
    clear hn0 hb0 he0
    go_wp2_with fail
    go_quiet (fail)
    go_wp2_with fail
    exact bodyPost_ret (results_tmp4 rfl _ _ _) rfl ⟨below_drewN hb2 _, k, by rw [HN.out, HB.out, HE.out]; rfl, HK.out⟩







def bytes (ss : List ByteArray) : List (List UInt8) := ss.map (·.data.toList)

theorem underlyings : Tryd.prog.underlying 9 = some .string ∧ Tryd.prog.underlying 37 = some (.slice 5) ∧ Tryd.prog.underlying 5 = some (.int .u8) := ⟨by kernel_rfl, by kernel_rfl, by kernel_rfl⟩



theorem conv_bytes (w : World) (s : ByteArray) : (convert 9 37 (.string s)).run Tryd.prog w = .ok (.slice (some ⟨w.heap.size, 0, none⟩) s.size (grownCap w s.size 0 5)) (Lib.bytesWorld w 5 s) :=
  Lib.run_convert_string_bytes w 9 37 5 s underlyings.1 underlyings.2.1 underlyings.2.2

def rlVal (r : Nat × Nat × Bool) : Value := .tuple #[.int .i64 r.1, .int .i64 r.2.1, .bool r.2.2]

theorem join_take_succ (ss : List ByteArray) (k : Nat) (h : k < ss.length) : Vi.join (bytes (ss.take (k + 1))) = Vi.join (bytes (ss.take k)) ++ (ss.getD k ByteArray.empty).data.toList := by
  have e : ss.getD k ByteArray.empty = ss[k] := by simp [List.getD, h]
  rw [List.take_succ_eq_append_getElem h, e]
  simp only [bytes, Vi.join, List.map_append, List.map_cons, List.map_nil, List.flatten_append, List.flatten_cons, List.flatten_nil, List.append_nil]

theorem join_take_le (ss : List ByteArray) (k : Nat) : (Vi.join (bytes (ss.take k))).length ≤ (Vi.join (bytes ss)).length := by
  have e : Vi.join (bytes ss) = Vi.join (bytes (ss.take k)) ++ Vi.join (bytes (ss.drop k)) := by
    rw [Vi.join, Vi.join, Vi.join, ← List.flatten_append, bytes, bytes, bytes, ← List.map_append, List.take_append_drop]
  rw [e, List.length_append]; omega

theorem rl_at (ss : List ByteArray) (k : Nat) (h : k < ss.length) (acc : List UInt8) :
    Vi.rl acc (bytes (ss.drop k)) = match Vi.read (acc ++ (ss.getD k ByteArray.empty).data.toList) with
      | .err => (0, 0, false)
      | .done v k => (v, k, true)
      | .more => Vi.rl (acc ++ (ss.getD k ByteArray.empty).data.toList) (bytes (ss.drop (k + 1))) := by
  have e : ss.getD k ByteArray.empty = ss[k] := by simp [List.getD, h]
  rw [List.drop_eq_getElem_cons h, e]
  simp only [bytes, List.map_cons]
  rw [Vi.rl]
  split <;> simp_all



set_option maxRecDepth 100000 in
set_option maxHeartbeats 400000 in
theorem readLength_any (ss : List ByteArray) (n cap : Nat) (A : Option Addr) (w : World) (hlen : ss.length = n) (hn63 : n ≤ 1000000000000) (hl : Lies w A n (strs ss)) (hsm : (Vi.join (bytes ss)).length ≤ 1000000)
   (te : TypeId) (ve : Value) (he : w.cell? ⟨0, 0, none⟩ = some (.iface te ve)) (h0 : 0 < w.heap.size) :
  Calls Tryd.prog 8 #[.slice A n cap] w fun e w' => e = .returned (rlVal (Vi.rl [] (bytes ss))) ∧ Below w.heap.size w w' := by
  have HL := Lib.hid hlen
  have HC := Lib.hid hl
  have hcv := conv_bytes
  clear hlen hl
  go_enter Tryd.func8, Tryd.ntmps8
  go_wp2_with fail
  go_loopg [5, 6] (n + 1) (fun gk s i wr => ∃ (k : Nat) (acc : ByteArray), gk + k = n + 1 ∧ k ≤ n ∧ i = .int .i64 k ∧ s = .string acc ∧ acc.data.toList = Vi.join (bytes (ss.take k)) ∧
    Vi.rl [] (bytes ss) = Vi.rl acc.data.toList (bytes (ss.drop k)) ∧ Below w.heap.size w wr)
  case atStart => exact ⟨0, ByteArray.empty, by omega, by omega, rfl, rfl, rfl, rfl, Below.refl _ _⟩
  case round =>
    obtain ⟨k, acc, hk1, hk, rfl, rfl, hacc, hrl, hb⟩ := hrel
    have hsz1 : acc.size ≤ 1000000 := by
      rw [← bsize, hacc]; exact Nat.le_trans (join_take_le ss k) hsm
    have HK1 := Lib.hid hk1
    have HA := Lib.hid hacc
    have HR := Lib.hid hrl
    clear hk1 hacc hrl
    by_cases hlt : k < n
    · obtain ⟨p, hp⟩ : ∃ p, p = ss.getD k ByteArray.empty := ⟨_, rfl⟩
      obtain ⟨ab, ao, rfl, hab, hcs⟩ := HC.out (by omega)
      have c2 : wr.cell? ⟨ab, ao + k, none⟩ = some (.string p) := by rw [hp]; exact (hb.cell hab).trans (hcs k hlt)
      have hjs : (acc ++ p).data.toList = Vi.join (bytes (ss.take (k + 1))) := by
        rw [join_take_succ ss k (by rw [HL.out]; exact hlt), ← HA.out, ← hp, bapp]
      have hsz2 : acc.size + p.size ≤ 1000000 := by
        have h1 : acc.size + p.size = (acc ++ p).data.toList.length := by rw [bapp, List.length_append, bsize, bsize]
        rw [h1, hjs]; exact Nat.le_trans (join_take_le ss _) hsm
      have hr1 := rl_at ss k (by rw [HL.out]; exact hlt) acc.data.toList
      rw [← hp] at hr1
      have HR1 := Lib.hid hr1
      have HJ := Lib.hid hjs
      clear hp hcs hr1 hjs
      go_wp2_with fail
      have hsz3 : (acc ++ p).data.toList.length = acc.size + p.size := by rw [bapp, List.length_append, bsize, bsize]
      have hsz4 : (acc ++ p).size = acc.size + p.size := by rw [← hsz3, bsize]
      have hb1 := bytesWorld_below wr 5 (acc ++ p)
      have hb2 : Below w.heap.size w (Lib.bytesWorld wr 5 (acc ++ p)) := hb.trans (hb1.mono hb.size)
      have hws := Lib.bytesWorld_size wr 5 (acc ++ p)
      refine (readVarInt21_any (acc ++ p).data.toList (acc.size + p.size) (grownCap wr (acc.size + p.size) 0 5) wr.heap.size 0 _ hsz3 (by omega) (by rw [hws]; omega) ?_ te ve ?_).mono ?_
      · intro j hj
        rw [Nat.zero_add]
        exact Lib.bytesWorld_cell wr 5 (acc ++ p) j (by rw [hsz4]; exact hj)
      · rw [← he]; exact hb2.cell h0
      · rintro e w' ⟨hb3, kk, rfl, hkk⟩
        have hb4 : Below w.heap.size w w' := hb2.trans (hb3.mono hb2.size)
        have HKK := Lib.hid hkk
        have HSZ := Lib.hid hsz3
        have HWS := Lib.hid hws
        clear hkk hsz3 hws hb1 hb2 hb3 c2 hsz4
        cases hr : Vi.read (acc ++ p).data.toList with
        | err =>
          have hfin : Vi.rl [] (bytes ss) = (0, 0, false) := by rw [HR.out, HR1.out, ← bapp, hr]
          have HF := Lib.hid hfin
          clear hr hfin
          simp only [viN, viB, viE]
          go_wp2_with fail
          go_ret3
          exact ⟨by rw [HF.out]; rfl, hb4⟩
        | done v u =>
          have hu : kk = u := HKK.out v u hr
          have hfin : Vi.rl [] (bytes ss) = (v, kk, true) := by rw [HR.out, HR1.out, ← bapp, hr, hu]
          have HF := Lib.hid hfin
          clear hr hfin hu
          simp only [viN, viB, viE]
          go_wp2_with fail
          go_ret3
          exact ⟨by rw [HF.out]; rfl, hb4⟩
        | more =>
          have hfin : Vi.rl [] (bytes ss) = Vi.rl (acc ++ p).data.toList (bytes (ss.drop (k + 1))) := by rw [HR.out, HR1.out, ← bapp, hr]
          have HF := Lib.hid hfin
          clear hr hfin
          simp only [viN, viB, viE]
          go_wp2_with fail
          go_roundg (n - k)
          case measure => have := HK1.out; omega
          case rel => exact ⟨k + 1, acc ++ p, by omega, by omega, by go_num, rfl, HJ.out, HF.out, hb4⟩
    · go_wp2_with fail
      go_ret3
      have : ss.drop k = [] := List.drop_eq_nil_of_le (by rw [HL.out]; omega)
      exact ⟨by rw [HR.out, this]; rfl, hb⟩






/-- zzFits2: whether all texts are short. -/
theorem zzFits2_any (ss : List ByteArray) (n cap : Nat) (A : Option Addr) (w : World) (hlen : ss.length = n) (hn63 : n ≤ 9223372036854775807) (hl : Lies w A n (strs ss)) :
  Calls Tryd.prog 10 #[.slice A n cap] w (SomeBool (n ≤ 2147483647) w) := by
  have HL := Lib.hid hlen
  have HC := Lib.hid hl
  clear hlen hl
  obtain ⟨Q, hQ⟩ : ∃ Q, Q = (n ≤ 2147483647) := ⟨_, rfl⟩
  rw [← hQ]
  by_cases hbig : n ≤ 2147483647
  · have hq : Q := by rw [hQ]; exact hbig
    have HQ := Lib.hid hQ
    clear hQ
    go_enter Tryd.func10, Tryd.ntmps10
    go_wp2_with fail
    go_loop [10] (fun i => ∃ k : Nat, k ≤ n ∧ i = .int .i64 k) (fun i => n - (intOf i).toNat)
    case atStart => exact ⟨0, by omega, rfl⟩
    case round =>
      obtain ⟨k, hk, rfl⟩ := hrel
      by_cases hlt : k < n
      · obtain ⟨ab, ao, rfl, hab, hcs⟩ := HC.out (by omega)
        have c2 := hcs k hlt
        unfold strs at c2
        generalize ss.getD k ByteArray.empty = p at c2
        clear hcs
        go_wp2_with fail
        · go_ret; exact SomeBool.mk _ fun _ => hq
        · go_round
          case rel => exact ⟨k + 1, by omega, by go_num⟩
          case measure => simp [intOf]; omega
      · go_wp2_with fail
        go_ret; exact SomeBool.mk _ fun _ => hq
  · have HQ := Lib.hid hQ
    clear hQ
    go_enter Tryd.func10, Tryd.ntmps10
    go_wp2_with fail
    go_ret
    exact SomeBool.mk false fun h => by cases h

def sumLen (ss : List ByteArray) : Nat := (Vi.join (bytes ss)).length

/-- length: where the answer is at most 1000 it is the sum of the lengths. -/
def LenPost (ss : List ByteArray) (w : World) (e : Ending) (w' : World) : Prop := ∃ x : Nat, e = .returned (.int .i64 x) ∧ w = w' ∧ (x ≤ 1000 → sumLen ss = x)

theorem length_any (ss : List ByteArray) (n cap : Nat) (A : Option Addr) (w : World) (hlen : ss.length = n) (hn63 : n ≤ 1000000000000000) (hl : Lies w A n (strs ss)) :
  Calls Tryd.prog 11 #[.slice A n cap] w (LenPost ss w) := by
  have HL := Lib.hid hlen
  have HC := Lib.hid hl
  clear hlen hl
  go_enter Tryd.func11, Tryd.ntmps11
  go_wp2_with fail
  go_loop [3, 4] (fun s i => ∃ k x : Nat, k ≤ n ∧ i = .int .i64 k ∧ s = .int .i64 x ∧ x ≤ 2001 ∧ (x ≤ 1000 → sumLen (ss.take k) = x)) (fun _ i => n - (intOf i).toNat)
  case atStart => exact ⟨0, 0, by omega, rfl, rfl, by omega, fun _ => rfl⟩
  case round =>
    obtain ⟨k, x, hk, rfl, rfl, hx, hs⟩ := hrel
    have HS := Lib.hid hs
    clear hs
    by_cases hlt : k < n
    · by_cases hx1 : x ≤ 1000
      · obtain ⟨ab, ao, rfl, hab, hcs⟩ := HC.out (by omega)
        have c2 := hcs k hlt
        unfold strs at c2
        have hj := join_take_succ ss k (by rw [HL.out]; exact hlt)
        have hj2 : sumLen (ss.take (k + 1)) = x + (ss.getD k ByteArray.empty).size := by
          rw [sumLen, hj, List.length_append, bsize]; rw [← HS.out hx1]; rfl
        have HJ := Lib.hid hj2
        clear hj hj2
        revert HJ
        generalize ss.getD k ByteArray.empty = p at c2 ⊢
        intro HJ
        clear hcs
        go_wp2_with fail
        go_round
        case rel =>
          by_cases hp : 1001 < p.size
          · refine ⟨k + 1, x + 1001, by omega, by go_num, ?_, by omega, fun h => by omega⟩
            rw [if_pos (by omega)]; rfl
          · refine ⟨k + 1, x + p.size, by omega, by go_num, ?_, by omega, fun _ => HJ.out⟩
            rw [if_neg (by omega)]; rfl
        case measure => simp [intOf]; omega
      · go_wp2_with fail
        go_ret
        exact ⟨x, rfl, rfl, fun h => absurd h hx1⟩
    · have hk2 : k = n := by omega
      go_wp2_with fail
      go_ret
      exact ⟨x, rfl, rfl, fun h => by rw [← HS.out h, List.take_of_length_le (by rw [HL.out]; omega)]⟩

/-- mqttJoin: the texts joined. -/
theorem join_any (ss : List ByteArray) (n cap : Nat) (A : Option Addr) (w : World) (hlen : ss.length = n) (hn63 : n ≤ 1000000000000000) (hl : Lies w A n (strs ss)) (hsm : sumLen ss ≤ 1000000) :
  Calls Tryd.prog 23 #[.slice A n cap] w fun e w' => e = .returned (.string ⟨(Vi.join (bytes ss)).toArray⟩) ∧ w = w' := by
  have HL := Lib.hid hlen
  have HC := Lib.hid hl
  clear hlen hl
  go_enter Tryd.func23, Tryd.ntmps23
  go_wp2_with fail
  go_loop [3, 8] (fun s i => ∃ (k : Nat) (acc : ByteArray), k ≤ n ∧ i = .int .i64 k ∧ s = .string acc ∧ acc.data.toList = Vi.join (bytes (ss.take k))) (fun _ i => n - (intOf i).toNat)
  case atStart => exact ⟨0, ByteArray.empty, by omega, rfl, rfl, rfl⟩
  case round =>
    obtain ⟨k, acc, hk, rfl, rfl, hacc⟩ := hrel
    have hsz1 : acc.size ≤ 1000000 := by rw [← bsize, hacc]; exact Nat.le_trans (join_take_le ss k) hsm
    have HA := Lib.hid hacc
    clear hacc
    by_cases hlt : k < n
    · obtain ⟨ab, ao, rfl, hab, hcs⟩ := HC.out (by omega)
      obtain ⟨p, hp⟩ : ∃ p, p = ss.getD k ByteArray.empty := ⟨_, rfl⟩
      have c2 := hcs k hlt
      unfold strs at c2
      rw [← hp] at c2
      have hjs : (acc ++ p).data.toList = Vi.join (bytes (ss.take (k + 1))) := by
        rw [join_take_succ ss k (by rw [HL.out]; exact hlt), ← HA.out, ← hp, bapp]
      have hsz2 : acc.size + p.size ≤ 1000000 := by
        have h1 : acc.size + p.size = (acc ++ p).data.toList.length := by rw [bapp, List.length_append, bsize, bsize]
        rw [h1, hjs]; exact Nat.le_trans (join_take_le ss _) hsm
      have HJ := Lib.hid hjs
      clear hcs hp hjs
      go_wp2_with fail
      go_round
      case rel => exact ⟨k + 1, acc ++ p, by omega, by go_num, rfl, HJ.out⟩
      case measure => simp [intOf]; omega
    · have hk2 : k = n := by omega
      go_wp2_with fail
      go_ret
      refine ⟨?_, rfl⟩
      have h := HA.out
      rw [List.take_of_length_le (by rw [HL.out]; omega)] at h
      rw [← h]; rfl



theorem pow128 (k : Nat) (h : k ≤ 4) : 1 ≤ 128 ^ k ∧ 128 ^ k ≤ 268435456 ∧ (k ≤ 2 → 128 ^ k * 128 ≤ 2097152) ∧ (k = 3 → 2097152 < 128 ^ k * 128) := by
  match k, h with
  | 0, _ => decide
  | 1, _ => decide
  | 2, _ => decide
  | 3, _ => decide
  | 4, _ => decide

theorem mul127 (b : UInt8) (m : Nat) : (0 : Int) ≤ (b.toNat : Int) % 128 * (m : Int) ∧ (b.toNat : Int) % 128 * (m : Int) ≤ 127 * (m : Int) := by
  have e : ((b.toNat % 128 * m : Nat) : Int) = (b.toNat : Int) % 128 * (m : Int) := by simp
  have p0 : b.toNat % 128 * m ≤ 127 * m := Nat.mul_le_mul_right _ (by omega)
  rw [← e]; omega

set_option maxRecDepth 100000 in
/-- spec.ReadLength. -/
theorem specRead_any (ss : List ByteArray) (n cap : Nat) (A : Option Addr) (w : World) (hlen : ss.length = n) (hn63 : n ≤ 1000000000000000) (hl : Lies w A n (strs ss)) (hsm : sumLen ss ≤ 1000000) :
  Calls Tryd.prog 13 #[.slice A n cap] w fun e w' => e = .returned (rlVal (Vi.answer (Vi.read (Vi.join (bytes ss))))) ∧ w = w' := by
  have HL := Lib.hid hlen
  have HC := Lib.hid hl
  clear hlen hl
  unfold sumLen at hsm
  obtain ⟨bs, hbs⟩ : ∃ bs, bs = Vi.join (bytes ss) := ⟨_, rfl⟩
  rw [← hbs] at hsm ⊢
  go_enter Tryd.func13, Tryd.ntmps13
  go_wp2_with fail
  refine (join_any ss n cap A w HL.out hn63 HC.out (by rw [sumLen, ← hbs]; exact hsm)).mono ?_
  rintro e w' ⟨rfl, rfl⟩
  rw [← hbs]
  have HBS := Lib.hid hbs
  clear hbs
  obtain ⟨s, hs⟩ : ∃ s : ByteArray, s = ⟨bs.toArray⟩ := ⟨_, rfl⟩
  have hl : s.size = bs.length := by rw [hs]; simp [ByteArray.size]
  have hsz : s.size ≤ 1000000 := by omega
  have hd : s.data.toList = bs := by rw [hs]
  rw [← hs]
  have HS := Lib.hid hl
  have HD := Lib.hid hd
  clear hs hl hd hsm
  go_wp2_with fail
  go_loop [2, 6, 7] (fun v m i => ∃ (k mm vv : Nat), k ≤ s.size ∧ k ≤ 4 ∧ i = .int .i64 k ∧ v = .int .i64 vv ∧ m = .int .i64 mm ∧ mm = 128 ^ k ∧ vv < mm ∧ (k < 4 → Vi.read bs = Vi.vi k vv mm (bs.drop k)) ∧ (4 ≤ k → Vi.read bs = .err)) (fun _ _ i => 4 - (intOf i).toNat)
  case atStart => exact ⟨0, 1, 0, by omega, by omega, rfl, rfl, rfl, rfl, by omega, fun _ => rfl, fun h => by omega⟩
  case round =>
    obtain ⟨k, mm, vv, hk, hk4, rfl, rfl, rfl, hmm, hvv, h1, h2⟩ := hrel
    have HM := Lib.hid hmm
    have H1 := Lib.hid h1
    have H2 := Lib.hid h2
    have hp := pow128 k hk4
    have hmm2 : mm ≤ 268435456 := by rw [HM.out]; exact hp.2.1
    have HP := Lib.hid hp
    clear hmm h1 h2 hp
    by_cases hlt : k < s.size
    · by_cases hlt4 : k < 4
      · have a1 := and127 s[k]
        have p1 := (mul127 s[k] mm).1
        have p2 := (mul127 s[k] mm).2
        have hv : Vi.read bs = Vi.vi k vv mm (s[k] :: bs.drop (k + 1)) := by
          rw [H1.out hlt4, ← HD.out, drop_at s k hlt]
        have HV := Lib.hid hv
        clear hv
        go_wp2_with fail
        · have hb : (s[k].toNat : Int) < 128 := by assumption
          go_ret3
          refine ⟨?_, rfl⟩
          rw [HV.out, Vi.vi, if_pos (by omega)]
          simp [Vi.answer, rlVal]
        · have hb : 128 ≤ (s[k].toNat : Int) := by assumption
          go_round
          case rel =>
            refine ⟨k + 1, mm * 128, vv + s[k].toNat % 128 * mm, by omega, by omega, by go_num, by simp, by simp, by rw [HM.out]; rfl, ?_, fun h => ?_, fun h => ?_⟩
            · have h1 := HP.out.1; rw [← HM.out] at h1; have h2 := Nat.mul_le_mul_right mm (show s[k].toNat % 128 ≤ 127 by omega); omega
            · rw [HV.out, Vi.vi, if_neg (by omega), if_neg (by have := HP.out.2.2.1 (by omega); rw [← HM.out] at this; omega)]
            · rw [HV.out, Vi.vi, if_neg (by omega), if_pos (by have := HP.out.2.2.2 (by omega); rw [← HM.out] at this; omega)]
          case measure => simp [intOf]; omega
      · go_wp2_with fail
        go_ret3
        exact ⟨by rw [H2.out (by omega)]; rfl, rfl⟩
    · go_wp2_with fail
      go_ret3
      refine ⟨?_, rfl⟩
      by_cases h4 : k < 4
      · rw [H1.out h4, List.drop_eq_nil_of_le (by rw [← HS.out]; omega)]; rfl
      · rw [H2.out (by omega)]; rfl



/-- string([]byte{x}) -/
theorem conv_one (W : World) (x : Int) : (convert 37 9 (.slice (some ⟨W.heap.size, 0, none⟩) 1 1)).run Tryd.prog (W.alloc (.cells #[.int .u8 x] 5)) = .ok (.string (strOfNums [x])) (W.alloc (.cells #[.int .u8 x] 5)) := by
  refine run_convert_bytes_arg _ 37 5 underlyings.2.1 underlyings.2.2 W.heap.size 0 1 1 [x] rfl (fun i hi => ?_) 9 underlyings.1
  have : i = 0 := by omega
  subst this
  rw [World.cell?_alloc_at _ _ _ _ (by simp)]; rfl

def SomeString (w : World) (e : Ending) (w' : World) : Prop := ∃ s : ByteArray, e = .returned (.string s) ∧ Below w.heap.size w w'

theorem nb (x : Int) : (strOfNums [x]).size = 1 := strOfNums_size [x]

set_option maxRecDepth 100000 in
theorem remaining_any (m : Nat) (w : World) (hm : m < 268435456) : Calls Tryd.prog 22 #[.int .i64 m] w (SomeString w) := by
  have hst := conv_one
  go_enter Tryd.func22, Tryd.ntmps22
  go_wp2_with fail
  go_loopg [0, 3] 4 (fun gk n s wr => ∃ (m : Nat) (acc : ByteArray), n = .int .i64 m ∧ s = .string acc ∧ acc.size + gk ≤ 10 ∧ 1 ≤ gk ∧ gk ≤ 4 ∧ m < 128 ^ gk ∧ Below w.heap.size w wr)
  case atStart => exact ⟨m, ByteArray.empty, rfl, rfl, by simp, by omega, by omega, by omega, Below.refl _ _⟩
  case round =>
    obtain ⟨m, acc, rfl, rfl, hs, h1, h4, hlt, hb⟩ := hrel
    have hm : m < 268435456 := Nat.lt_of_lt_of_le hlt (pow128 gk h4).2.1
    have hd : m / 128 < 128 ^ (gk - 1) := by
      rw [Nat.div_lt_iff_lt_mul (by omega)]
      have : 128 ^ (gk - 1) * 128 = 128 ^ gk := by rw [← Nat.pow_succ]; congr 1; omega
      omega
    have HD := Lib.hid hd
    have hone : ∀ x : Int, (strOfNums [x]).size = 1 := nb
    clear hlt hd
    go_wp2_with fail
    · have hpos : (0 : Int) < (m : Int) / 128 := by assumption
      have hd2 := HD.out
      go_roundg (gk - 1)
      case measure => omega
      case rel =>
        refine ⟨m / 128, acc ++ strOfNums [(m : Int) % 128 + 128], by simp, rfl, ?_, ?_, by omega, hd2, hb.alloc hb.size _⟩
        · rw [ByteArray.size_append, nb]; omega
        · rcases Nat.eq_zero_or_pos (gk - 1) with h0 | h0
          · rw [h0] at hd2; omega
          · exact h0
    · go_ret
      exact ⟨_, rfl, hb.alloc hb.size _⟩

/-- spec.LengthKnown. -/
def KnownPost (w : World) (e : Ending) (w' : World) : Prop := ∃ b : Bool, e = .returned (.bool b) ∧ Below w.heap.size w w'

set_option maxRecDepth 100000 in
theorem known_any (ss : List ByteArray) (n cap : Nat) (A : Option Addr) (w : World) (hlen : ss.length = n) (hn63 : n ≤ 1000000000000000) (hl : Lies w A n (strs ss)) (hsm : sumLen ss ≤ 1000000) :
  Calls Tryd.prog 12 #[.slice A n cap] w (KnownPost w) := by
  have HL := Lib.hid hlen
  have HC := Lib.hid hl
  clear hlen hl
  go_enter Tryd.func12, Tryd.ntmps12
  go_wp2_with fail
  refine (specRead_any ss n cap A w HL.out hn63 HC.out hsm).mono ?_
  rintro e w' ⟨rfl, rfl⟩
  cases hr : Vi.read (Vi.join (bytes ss)) with
  | done v u =>
    have hv := Vi.vi_le _ _ _ _ _ _ hr (by omega) (by omega)
    clear hr
    simp only [Vi.answer, rlVal]
    go_wp2_with fail
    refine (remaining_any v w hv.1).mono ?_
    rintro e w' ⟨s, rfl, hb⟩
    go_wp2_with fail
    go_ret
    exact ⟨_, rfl, hb⟩
  | more =>
    simp only [Vi.answer, rlVal]
    go_wp2_with fail
    go_ret
    exact ⟨_, rfl, Below.refl _ _⟩
  | err =>
    simp only [Vi.answer, rlVal]
    go_wp2_with fail
    go_ret
    exact ⟨_, rfl, Below.refl _ _⟩

end Go.Proofs.YtjaodjeommkjgaaDoor
