/-
  wsReadInfo.unmask: the bytes of a slice under the key.
-/
import Derived.Test.YtkkedekgniffoaaDoorFb
import Derived.Test.YtkkedekgniffoaaDoorShelf
import Derived.Deep.RegionHeld3
import Derived.Deep.AppendLies
import Derived.StillTailTactics
namespace Go.Proofs.YtkkedekgniffoaaDoor
open Go.RowKit

theorem and3 (p : Nat) (h : p < 4611686018427387904) : bits .and .i64 (p : Int) 3 = ((p % 4 : Nat) : Int) := by
  have := bits_mask .i64 63 (by decide) (fun n h0 h1 => by rw [IntKind.wrap_i64]; omega) 2 (by decide) (p : Int) (by omega) (by omega)
  rw [show (2 : Int) ^ 2 - 1 = 3 from by decide] at this
  rw [this]
  omega

/-! ## Words of eight bytes -/
theorem xor_word (a b x y : Nat) (hx : x < 256) (hy : y < 256) : (a * 256 + x) ^^^ (b * 256 + y) = (a ^^^ b) * 256 + (x ^^^ y) := by
  have h : ∀ (c z : Nat), z < 2 ^ 8 → c * 256 + z = c <<< 8 ||| z := by
    intro c z hz
    rw [← Nat.shiftLeft_add_eq_or_of_lt hz, Nat.shiftLeft_eq]
  have hxy : x ^^^ y < 2 ^ 8 := Nat.xor_lt_two_pow hx hy
  rw [h a x hx, h b y hy, h (a ^^^ b) (x ^^^ y) hxy]
  apply Nat.eq_of_testBit_eq
  intro i
  simp only [Nat.testBit_xor, Nat.testBit_or, Nat.testBit_shiftLeft]
  by_cases hi : 8 ≤ i
  · have h1 : x.testBit i = false := Nat.testBit_lt_two_pow (Nat.lt_of_lt_of_le hx (Nat.pow_le_pow_right (Nat.zero_lt_succ 1) hi))
    have h2 : y.testBit i = false := Nat.testBit_lt_two_pow (Nat.lt_of_lt_of_le hy (Nat.pow_le_pow_right (Nat.zero_lt_succ 1) hi))
    simp [hi, h1, h2]
  · simp [hi]
theorem beFrom_xor : ∀ (xs ys : List UInt8) (a b : Nat), xs.length = ys.length → Lib.beFrom a xs ^^^ Lib.beFrom b ys = Lib.beFrom (a ^^^ b) (List.zipWith (· ^^^ ·) xs ys)
  | [], [], a, b, _ => rfl
  | [], _ :: _, _, _, h => by simp at h
  | _ :: _, [], _, _, h => by simp at h
  | x :: xs, y :: ys, a, b, h => by
    simp only [Lib.beFrom, List.zipWith_cons_cons]
    rw [beFrom_xor xs ys _ _ (by simpa using h), xor_word _ _ _ _ x.toNat_lt y.toNat_lt, UInt8.toNat_xor]
theorem leBytes_leNat : ∀ (l : List UInt8), Lib.leBytes l.length (Lib.leNat l) = l
  | [] => rfl
  | c :: l => by
    have hc := c.toNat_lt
    simp only [List.length_cons, Lib.leBytes, Lib.leNat]
    rw [show (c.toNat + 256 * Lib.leNat l) / 256 = Lib.leNat l from by omega, leBytes_leNat l, show (c.toNat + 256 * Lib.leNat l) % 256 = c.toNat from by omega]
    congr 1
    simp
theorem beBytes_beNat (l : List UInt8) : Lib.beBytes l.length (Lib.beNat l) = l := by
  rw [Lib.beBytes, Lib.beNat_eq, ← List.length_reverse, leBytes_leNat, List.reverse_reverse]
theorem beNat_lt : ∀ (l : List UInt8) (a : Nat), Lib.beFrom a l < (a + 1) * 256 ^ l.length
  | [], a => by simp [Lib.beFrom]
  | c :: l, a => by
    have h := beNat_lt l (a * 256 + c.toNat)
    have hc := c.toNat_lt
    simp only [Lib.beFrom, List.length_cons, Nat.pow_succ]
    refine Nat.lt_of_lt_of_le h ?_
    rw [Nat.mul_comm (256 ^ l.length) 256, ← Nat.mul_assoc]
    exact Nat.mul_le_mul_right _ (by omega)
theorem words_xor (x0 x1 x2 x3 x4 x5 x6 x7 y0 y1 y2 y3 y4 y5 y6 y7 : UInt8) :
    Lib.beBytes 8 (Lib.beNat [x0, x1, x2, x3, x4, x5, x6, x7] ^^^ Lib.beNat [y0, y1, y2, y3, y4, y5, y6, y7]) = [x0 ^^^ y0, x1 ^^^ y1, x2 ^^^ y2, x3 ^^^ y3, x4 ^^^ y4, x5 ^^^ y5, x6 ^^^ y6, x7 ^^^ y7] := by
  unfold Lib.beNat
  rw [beFrom_xor [x0, x1, x2, x3, x4, x5, x6, x7] [y0, y1, y2, y3, y4, y5, y6, y7] 0 0 rfl]
  exact beBytes_beNat [x0 ^^^ y0, x1 ^^^ y1, x2 ^^^ y2, x3 ^^^ y3, x4 ^^^ y4, x5 ^^^ y5, x6 ^^^ y6, x7 ^^^ y7]
theorem word_lt (x0 x1 x2 x3 x4 x5 x6 x7 : UInt8) : Lib.beNat [x0, x1, x2, x3, x4, x5, x6, x7] < 18446744073709551616 := by
  have := beNat_lt [x0, x1, x2, x3, x4, x5, x6, x7] 0
  simpa [Lib.beNat] using this

/-- bytes laid one behind the other -/
def sets (l : List UInt8) (o : Nat) : List UInt8 → List UInt8
  | [] => l
  | c :: r => sets (l.set o c) (o + 1) r
theorem ByteRow.sets {g : Nat} : ∀ (r : List UInt8) (w : World) (l : List UInt8) (o : Nat), ByteRow w g l → ByteRow (w.setCells g o (Lib.byteCells r)) g (sets l o r)
  | [], _, _, _, h => h
  | c :: r, _, _, o, h => ByteRow.sets r _ _ (o + 1) (h.set c)
theorem mixU_eight (key : List UInt8) (kp : Nat) (l : List UInt8) (o i : Nat) (h : o + i + 7 < l.length) : mixU key kp l o (i + 8) = sets (mixU key kp l o i) (o + i)
    [l[o + i] ^^^ Fr.kat key (kp + i), l[o + i + 1] ^^^ Fr.kat key (kp + i + 1), l[o + i + 2] ^^^ Fr.kat key (kp + i + 2), l[o + i + 3] ^^^ Fr.kat key (kp + i + 3), l[o + i + 4] ^^^ Fr.kat key (kp + i + 4), l[o + i + 5] ^^^ Fr.kat key (kp + i + 5), l[o + i + 6] ^^^ Fr.kat key (kp + i + 6), l[o + i + 7] ^^^ Fr.kat key (kp + i + 7)] := by
  simp only [sets]
  rw [mixU_step key kp l o (i + 7) (by omega), mixU_step key kp l o (i + 6) (by omega), mixU_step key kp l o (i + 5) (by omega), mixU_step key kp l o (i + 4) (by omega), mixU_step key kp l o (i + 3) (by omega), mixU_step key kp l o (i + 2) (by omega), mixU_step key kp l o (i + 1) (by omega), mixU_step key kp l o i (by omega)]
  rfl

/-- the eight bytes under which a word stands -/
def kf (key : List UInt8) (kp j : Nat) : List UInt8 := (List.range 8).map (fun i => if i < j then Fr.kat key (kp + i) else 0)
theorem kf_length (key : List UInt8) (kp j : Nat) : (kf key kp j).length = 8 := by simp [kf]
theorem kf_step (key : List UInt8) (kp j : Nat) (h : j < 8) : kf key kp (j + 1) = (kf key kp j).set j (Fr.kat key (kp + j)) := by
  apply List.ext_getElem?
  intro i
  rw [List.getElem?_set, kf_length]
  unfold kf
  rw [List.getElem?_map, List.getElem?_map]
  by_cases hij : j = i
  · subst hij
    rw [if_pos rfl, if_pos h, List.getElem?_range h]
    simp
  · rw [if_neg hij]
    rcases Nat.lt_or_ge i 8 with h8 | h8
    · rw [List.getElem?_range h8]
      simp only [Option.map_some]
      by_cases h1 : i < j
      · rw [if_pos h1, if_pos (by omega)]
      · rw [if_neg h1, if_neg (by omega)]
    · rw [List.getElem?_eq_none (by simpa using h8)]
      rfl
def KRow (x : World) (Q : Nat) (l : List UInt8) : Prop := x.heap[Q]? = some (.cells (l.map bv).toArray 94 (0, 0))
theorem KRow.set {x : World} {Q : Nat} {l : List UInt8} (h : KRow x Q l) (j : Nat) (c : UInt8) : KRow (x.setCell ⟨Q, j, none⟩ (.int .u8 c.toNat)) Q (l.set j c) := by
  unfold KRow at *
  rw [K.heap_setCell_at h]
  simp [bv, List.map_set]
theorem KRow.cell {x : World} {Q : Nat} {l : List UInt8} (h : KRow x Q l) (j : Nat) (hj : j < l.length) : x.cell? ⟨Q, j, none⟩ = some (.int .u8 (l[j]).toNat) := by
  unfold KRow at h
  simp [World.cell?, h, hj, bv]
theorem KRow.fz {x : World} {Q : Nat} {l : List UInt8} (h : KRow x Q l) (j : Nat) : x.frozen? ⟨Q, j, none⟩ = false := by
  unfold KRow at h
  simp [World.frozen?, h]

theorem But.setCells {S : Nat → Prop} {g : Nat} (hg : S g) : ∀ (vs : List Value) (o : Nat) {a b : World}, But S a b → But S a (b.setCells g o vs)
  | [], _, _, _, h => h
  | v :: r, o, _, _, h => But.setCells hg r (o + 1) (h.setCell ⟨g, o, none⟩ v hg)

def UnmPost (R g o n : Nat) (B : List UInt8) (r : RdV) (w : World) (e : Ending) (w' : World) : Prop :=
  e = .returned (.tuple #[]) ∧ RdAt w' R { r with kp := (r.kp + n) % 4 } ∧ ByteRow w' g (mixU r.key r.kp B o n) ∧ But (fun k => k = g ∨ k = R) w w'

set_option maxHeartbeats 4000000 in
set_option maxRecDepth 100000 in
theorem unmask_any (R g o n cap : Nat) (B : List UInt8) (r : RdV) (w : World) (hR : RdAt w R r) (hB : ByteRow w g B) (hk : r.kp < 4) (hon : o + n ≤ B.length) (hn : n ≤ 1000000) (hnc : n ≤ cap) :
    Calls Tryd.prog 29 #[.pointer (some ⟨R, 0, none⟩), .slice (some ⟨g, o, none⟩) n cap] w (UnmPost R g o n B r w) := by
  have hgR : g ≠ R := hB.ne hR (by decide)
  have HR := Lib.hid hR
  have HB := Lib.hid hB
  have c5 := hR.c5
  clear hR hB
  by_cases hn16 : n < 16
  · have hz16 : (n : Int) < 16 := by omega
    go_enter Tryd.func29, Tryd.ntmps29
    go_wp2_with fail
    go_loopg [4, 5] (n + 1) (fun gk p i x => ∃ j : Nat, j ≤ n ∧ gk = n + 1 - j ∧ p = .int .i64 ((r.kp + j : Nat) : Int) ∧ i = .int .i64 j ∧ Hid (RdAt x R r ∧ ByteRow x g (mixU r.key r.kp B o j) ∧ But (fun k => k = g ∨ k = R) w x))
    case atStart => exact ⟨0, by omega, by omega, by go_num, rfl, Lib.hid ⟨HR.out, by rw [mixU_zero]; exact HB.out, But.refl _ _⟩⟩
    case round =>
      obtain ⟨j, hj, hg, rfl, rfl, HJ⟩ := hrel
      by_cases hjn : j < n
      · have hjB : o + j < B.length := by omega
        have hx0 := HJ.out.2.1.cell (j := o + j) (c := B[o + j]) (by rw [mixU_far _ _ _ _ _ _ (Or.inr (Nat.le_refl _))]; exact List.getElem?_eq_getElem hjB)
        have hfz := HJ.out.2.1.fz (j := o + j) (by rw [mixU_length]; exact hjB)
        have hkk := HJ.out.1.key (r.kp + j)
        obtain ⟨m, hm⟩ : ∃ m, (r.kp + j) % 4 = m := ⟨_, rfl⟩
        have hand : bits .and .i64 ((r.kp : Int) + (j : Int)) 3 = (m : Int) := by have h := and3 (r.kp + j) (by omega); rw [hm] at h; exact h
        have hm4 : m < 4 := by omega
        rw [hm] at hkk
        have hxor := xor8 B[o + j] (Fr.kat r.key (r.kp + j))
        obtain ⟨xx, hxx⟩ : ∃ xx, B[o + j] ^^^ Fr.kat r.key (r.kp + j) = xx := ⟨_, rfl⟩
        have HST := Lib.hid (mixU_step r.key r.kp B o j hjB)
        rw [hxx] at hxor HST
        clear hxx
        generalize B[o + j] = bb at *
        generalize Fr.kat r.key (r.kp + j) = kk at *
        have b0 : (0 : Int) ≤ (j : Int) := by omega
        have b1 : (j : Int) < (n : Int) := by omega
        have b2 : (0 : Int) ≤ (m : Int) := by omega
        have b3 : (m : Int) < 4 := by omega
        clear hm
        go_wp2_with fail
        go_still_tail 12, (by kernel_rfl)
        change wpList _ _ _ _ _ wr.drew
        go_wp2_with fail
        have hnx : 6 + m ≠ 5 := by omega
        go_roundg (n - j)
        case measure => omega
        case rel => exact ⟨j + 1, by omega, by omega, by go_num, by go_num, Lib.hid ⟨(HJ.out.1.at (Below.heap_setCell _ _ _ _ (Ne.symm hgR))), by rw [HST.out]; exact HJ.out.2.1.set _, (HJ.out.2.2.setCell _ _ (Or.inl rfl)).drewN 1⟩⟩
      · obtain rfl : j = n := by omega
        have hand : bits .and .i64 ((r.kp : Int) + (j : Int)) 3 = (((r.kp + j) % 4 : Nat) : Int) := and3 (r.kp + j) (by omega)
        have hm4 : (r.kp + j) % 4 < 4 := by omega
        have HM := Lib.hid (HJ.out.1.set5 ((r.kp + j) % 4))
        obtain ⟨m, hm⟩ : ∃ m, (r.kp + j) % 4 = m := ⟨_, rfl⟩
        rw [hm] at hand hm4 HM
        have f5 := HJ.out.1.fz 5
        have c5' := HJ.out.1.c5
        have hu : IntKind.u8.wrap (m : Int) = (m : Int) := by exact IntWalk.u8_in _ (by omega)
        have HMM := Lib.hid hm
        clear hm
        go_wp2_with fail
        go_end0
        exact ⟨rfl, by rw [HMM.out]; exact HM.out, (HJ.out.2.1.at (Below.heap_setCell _ _ _ _ hgR)), HJ.out.2.2.setCell _ _ (Or.inr rfl)⟩
  · have hz16 : ¬ ((n : Int) < 16) := by omega
    have hz16' : (16 : Int) ≤ (n : Int) := by omega
    have hgs := HB.out.lt
    have hRs := HR.out.lt
    go_enter Tryd.func29, Tryd.ntmps29
    go_wp2_with fail
    have hK0 : KRow (w.alloc (Obj.cells #[Value.int IntKind.u8 0, Value.int IntKind.u8 0, Value.int IntKind.u8 0, Value.int IntKind.u8 0, Value.int IntKind.u8 0, Value.int IntKind.u8 0, Value.int IntKind.u8 0, Value.int IntKind.u8 0] 94)) w.heap.size (kf r.key r.kp 0) := K.heap_alloc_at _ _
    have hA := K.Grew.then (K.Grew.refl w) (Below.alloc (Below.refl w.heap.size w) (Nat.le_refl _) (Obj.cells #[Value.int IntKind.u8 0, Value.int IntKind.u8 0, Value.int IntKind.u8 0, Value.int IntKind.u8 0, Value.int IntKind.u8 0, Value.int IntKind.u8 0, Value.int IntKind.u8 0, Value.int IntKind.u8 0] 94))
    generalize (w.alloc (Obj.cells #[Value.int IntKind.u8 0, Value.int IntKind.u8 0, Value.int IntKind.u8 0, Value.int IntKind.u8 0, Value.int IntKind.u8 0, Value.int IntKind.u8 0, Value.int IntKind.u8 0, Value.int IntKind.u8 0] 94)) = w1 at hK0 hA ⊢
    have HA := Lib.hid (And.intro hA hK0)
    clear hA hK0
    obtain ⟨KB, hKB⟩ : ∃ KB, KB = w.heap.size := ⟨_, rfl⟩
    rw [← hKB] at HA ⊢
    have hKg : g ≠ KB := by omega
    have hKR : R ≠ KB := by omega
    have HKB := Lib.hid hKB
    clear hKB
    go_loopg [7] 9 (fun gk jv x => ∃ j : Nat, j ≤ 8 ∧ gk = 9 - j ∧ jv = .int .i64 j ∧ Hid (RdAt x R r ∧ ByteRow x g B ∧ KRow x KB (kf r.key r.kp j) ∧ But (fun k => k = g ∨ k = R) w x))
    case atStart => exact ⟨0, by omega, by omega, rfl, Lib.hid ⟨HR.out.at (HA.out.1.block _ hRs), HB.out.at (HA.out.1.block _ hgs), HA.out.2, But.of HA.out.1⟩⟩
    case round =>
      obtain ⟨j, hj, hg, rfl, HJ⟩ := hrel
      by_cases hj8 : j < 8
      · have hkk := HJ.out.1.key (r.kp + j)
        have kc := HJ.out.2.2.1.cell j (by rw [kf_length]; exact hj8)
        have kz := HJ.out.2.2.1.fz j
        obtain ⟨m, hm⟩ : ∃ m, (r.kp + j) % 4 = m := ⟨_, rfl⟩
        have hand : bits .and .i64 ((r.kp : Int) + (j : Int)) 3 = (m : Int) := by have h := and3 (r.kp + j) (by omega); rw [hm] at h; exact h
        have hm4 : m < 4 := by omega
        rw [hm] at hkk
        have HST := Lib.hid (kf_step r.key r.kp j hj8)
        generalize Fr.kat r.key (r.kp + j) = kk at *
        have b0 : (0 : Int) ≤ (j : Int) := by omega
        have b1 : (j : Int) < 8 := by omega
        have b2 : (0 : Int) ≤ (m : Int) := by omega
        have b3 : (m : Int) < 4 := by omega
        clear hm
        go_wp2_with fail
        go_roundg (8 - j)
        case measure => omega
        case rel => exact ⟨j + 1, by omega, by omega, by go_num, Lib.hid ⟨HJ.out.1.at (Below.heap_setCell _ _ _ _ hKR), HJ.out.2.1.at (Below.heap_setCell _ _ _ _ hKg), by rw [HST.out]; exact HJ.out.2.2.1.set _ _, ⟨HJ.out.2.2.2.os, HJ.out.2.2.2.tape, HJ.out.2.2.2.output, by simpa using HJ.out.2.2.2.size, fun k hk hs => (Below.heap_setCell _ _ _ _ (by have := HKB.out; simp; omega)).trans (HJ.out.2.2.2.block k hk hs)⟩⟩⟩
      · obtain rfl : j = 8 := by omega
        obtain ⟨y0, y1, y2, y3, y4, y5, y6, y7, hy⟩ : ∃ y0 y1 y2 y3 y4 y5 y6 y7 : UInt8, Hid ((∀ i, y0 = Fr.kat r.key (r.kp + 8 * i) ∧ y1 = Fr.kat r.key (r.kp + 8 * i + 1) ∧ y2 = Fr.kat r.key (r.kp + 8 * i + 2) ∧ y3 = Fr.kat r.key (r.kp + 8 * i + 3) ∧ y4 = Fr.kat r.key (r.kp + 8 * i + 4) ∧ y5 = Fr.kat r.key (r.kp + 8 * i + 5) ∧ y6 = Fr.kat r.key (r.kp + 8 * i + 6) ∧ y7 = Fr.kat r.key (r.kp + 8 * i + 7)) ∧ kf r.key r.kp 8 = [y0, y1, y2, y3, y4, y5, y6, y7]) := by
          refine ⟨Fr.kat r.key (r.kp), Fr.kat r.key (r.kp + 1), Fr.kat r.key (r.kp + 2), Fr.kat r.key (r.kp + 3), Fr.kat r.key (r.kp + 4), Fr.kat r.key (r.kp + 5), Fr.kat r.key (r.kp + 6), Fr.kat r.key (r.kp + 7), Lib.hid ⟨fun i => ?_, rfl⟩⟩
          have h : ∀ a b, a % 4 = b % 4 → Fr.kat r.key a = Fr.kat r.key b := fun a b h => by unfold Fr.kat; rw [h]
          refine ⟨h _ _ ?_, h _ _ ?_, h _ _ ?_, h _ _ ?_, h _ _ ?_, h _ _ ?_, h _ _ ?_, h _ _ ?_⟩ <;> omega
        have hk8 : KRow wr KB [y0, y1, y2, y3, y4, y5, y6, y7] := by rw [← hy.out.2]; exact HJ.out.2.2.1
        have HC : Hid (∀ w' : World, w'.heap = wr.heap → Calls Tryd.prog 26 #[.agg #[], .slice (some ⟨KB, 0, none⟩) 8 8] w' fun e w2 => e = .returned (.int .u64 (Lib.beNat [y0, y1, y2, y3, y4, y5, y6, y7])) ∧ Below w'.heap.size w' w2) := by
          refine Lib.hid fun w' hw => ?_
          have hk9 : KRow w' KB [y0, y1, y2, y3, y4, y5, y6, y7] := by unfold KRow; rw [hw]; exact hk8
          exact Tryd.binary_BE_Uint64 KB 0 8 8 y0 y1 y2 y3 y4 y5 y6 y7 w' (by omega) (hk9.cell 0 (by simp)) (hk9.cell 1 (by simp)) (hk9.cell 2 (by simp)) (hk9.cell 3 (by simp)) (hk9.cell 4 (by simp)) (hk9.cell 5 (by simp)) (hk9.cell 6 (by simp)) (hk9.cell 7 (by simp))
        clear hk8
        go_wp2_with fail
        go_region_with (go_at_call 26; (with_reducible refine (HC.out _ ?hw).mono ?_); (case hw => rfl); rintro e w2 ⟨rfl, hb⟩)
        have HW := Lib.hid (show RdAt w2 R r ∧ ByteRow w2 g B ∧ But (fun k => k = g ∨ k = R) w w2 from by
          have hb2 : Below wr.heap.size wr w2 := ⟨hb.os, hb.tape, hb.output, hb.size, hb.block⟩
          exact ⟨HJ.out.1.at (hb2.block _ HJ.out.1.lt), HJ.out.2.1.at (hb2.block _ HJ.out.2.1.lt), HJ.out.2.2.2.trans (But.of hb2)⟩)
        have HKM := Lib.hid (word_lt y0 y1 y2 y3 y4 y5 y6 y7)
        obtain ⟨km, hkm⟩ : ∃ km, Lib.beNat [y0, y1, y2, y3, y4, y5, y6, y7] = km := ⟨_, rfl⟩
        rw [hkm] at HKM ⊢
        have HKE := Lib.hid hkm
        clear hb hkm HC
        obtain ⟨q, s, N, rfl, hs8, hN⟩ : ∃ q s N, n = N + s ∧ s < 8 ∧ N = 8 * q := ⟨n / 8, n % 8, 8 * (n / 8), by omega, by omega, rfl⟩
        have hq8 : ((N : Int) + (s : Int)) / 8 = (q : Int) := by omega
        have hq9 : (q : Int) * 8 = (N : Int) := by omega
        have HN := Lib.hid hN
        clear hN
        go_wp2_with fail
        clear hq8 hq9
        go_loopg [10, 11] (q + 1) (fun gk iv _ x => ∃ j k : Nat, j ≤ q ∧ gk = q + 1 - j ∧ k = 8 * j ∧ iv = .int .i64 (k : Int) ∧ Hid (RdAt x R r ∧ ByteRow x g (mixU r.key r.kp B o k) ∧ But (fun k => k = g ∨ k = R) w x))
        case atStart => exact ⟨0, 0, by omega, by omega, rfl, by go_num, Lib.hid ⟨HW.out.1, by rw [mixU_zero]; exact HW.out.2.1, HW.out.2.2⟩⟩
        case round =>
          obtain ⟨j, k, hj, hg, hk8, rfl, HJ3⟩ := hrel
          by_cases hjq : j < q
          · obtain ⟨x0, x1, x2, x3, x4, x5, x6, x7, hx⟩ : ∃ x0 x1 x2 x3 x4 x5 x6 x7 : UInt8, Hid ((∀ w' : World, w'.heap = wr.heap →
                (w'.cell? ⟨g, o + k, none⟩ = some (.int .u8 x0.toNat) ∧ w'.cell? ⟨g, o + k + 1, none⟩ = some (.int .u8 x1.toNat) ∧ w'.cell? ⟨g, o + k + 2, none⟩ = some (.int .u8 x2.toNat) ∧ w'.cell? ⟨g, o + k + 3, none⟩ = some (.int .u8 x3.toNat) ∧ w'.cell? ⟨g, o + k + 4, none⟩ = some (.int .u8 x4.toNat) ∧ w'.cell? ⟨g, o + k + 5, none⟩ = some (.int .u8 x5.toNat) ∧ w'.cell? ⟨g, o + k + 6, none⟩ = some (.int .u8 x6.toNat) ∧ w'.cell? ⟨g, o + k + 7, none⟩ = some (.int .u8 x7.toNat)) ∧
                ∀ i, i < 8 → w'.frozen? ⟨g, o + k + i, none⟩ = false) ∧
                mixU r.key r.kp B o (k + 8) = sets (mixU r.key r.kp B o k) (o + k) [x0 ^^^ y0, x1 ^^^ y1, x2 ^^^ y2, x3 ^^^ y3, x4 ^^^ y4, x5 ^^^ y5, x6 ^^^ y6, x7 ^^^ y7]) := by
              have hB7 : o + k + 7 < B.length := by have := HN.out; omega
              have hc : ∀ i (hi : o + k + i < B.length) (w' : World), w'.heap = wr.heap → w'.cell? ⟨g, o + k + i, none⟩ = some (.int .u8 (B[o + k + i]).toNat) := fun i hi w' hw =>
                (HJ3.out.2.1.at (by rw [hw])).cell (by rw [mixU_far _ _ _ _ _ _ (Or.inr (by omega))]; exact List.getElem?_eq_getElem _)
              refine ⟨B[o + k], B[o + k + 1], B[o + k + 2], B[o + k + 3], B[o + k + 4], B[o + k + 5], B[o + k + 6], B[o + k + 7], Lib.hid ⟨fun w' hw => ⟨⟨hc 0 (by omega) w' hw, hc 1 (by omega) w' hw, hc 2 (by omega) w' hw, hc 3 (by omega) w' hw, hc 4 (by omega) w' hw, hc 5 (by omega) w' hw, hc 6 (by omega) w' hw, hc 7 (by omega) w' hw⟩, fun i hi => ?_⟩, ?_⟩⟩
              · exact (HJ3.out.2.1.at (by rw [hw])).fz (by rw [mixU_length]; omega)
              · rw [mixU_eight r.key r.kp B o k hB7]
                obtain ⟨e0, e1, e2, e3, e4, e5, e6, e7⟩ := hy.out.1 j
                rw [← hk8] at e0 e1 e2 e3 e4 e5 e6 e7
                rw [e0, e1, e2, e3, e4, e5, e6, e7]
            have HC3 : Hid (∀ (nn c : Nat) (w' : World), nn = 8 → w'.heap = wr.heap → Calls Tryd.prog 26 #[.agg #[], .slice (some ⟨g, o + k, none⟩) nn c] w' fun e w2 => e = .returned (.int .u64 (Lib.beNat [x0, x1, x2, x3, x4, x5, x6, x7])) ∧ Below w'.heap.size w' w2) := by
              refine Lib.hid fun nn c w' hnn hw => ?_
              subst hnn
              obtain ⟨⟨c0, c1, c2, c3, c4, c5, c6, c7⟩, _⟩ := hx.out.1 w' hw
              exact Tryd.binary_BE_Uint64 g (o + k) 8 c x0 x1 x2 x3 x4 x5 x6 x7 w' (by omega) c0 c1 c2 c3 c4 c5 c6 c7
            have i0 : (0 : Int) ≤ (k : Int) := by omega
            have hNN := HN.out
            have i1 : (k : Int) + 8 ≤ (N : Int) + (s : Int) := by omega
            have i2 : (k : Int) < (N : Int) := by omega
            have i3 : (k : Int) ≤ (k : Int) + 8 := by omega
            have i4 : (k : Int) + 8 ≤ (cap : Int) := by omega
            have i5 : (0 : Int) ≤ (k : Int) + 8 := by omega
            have i6 : IntKind.i64.wrap ((k : Int) + 8) = (k : Int) + 8 := by exact IntWalk.i64_in _ (by omega)
            have i7 : (k : Int) ≤ (cap : Int) := by omega
            have i8 : ¬ (cap = k) := by omega
            have HK8 := Lib.hid hk8
            clear hk8 hNN
            go_wp2_with fail
            go_region_with (go_at_call 26; (with_reducible refine (HC3.out _ _ _ ?hn ?hw).mono ?_); (case hn => omega); (case hw => rfl); rintro e w2 ⟨rfl, hb⟩)
            have HW3 := Lib.hid (show Below wr.heap.size wr w2 from ⟨hb.os, hb.tape, hb.output, hb.size, hb.block⟩)
            clear hb HC3
            have HXY := Lib.hid (words_xor x0 x1 x2 x3 x4 x5 x6 x7 y0 y1 y2 y3 y4 y5 y6 y7)
            have hvl := word_lt x0 x1 x2 x3 x4 x5 x6 x7
            rw [HKE.out] at HXY
            generalize Lib.beNat [x0, x1, x2, x3, x4, x5, x6, x7] = v at HXY hvl ⊢
            have hx64 : bits .xor .u64 (v : Int) (km : Int) = ((v ^^^ km : Nat) : Int) := u64_xor_nat v km hvl HKM.out
            have HVL := Lib.hid (show v ^^^ km < 18446744073709551616 from Nat.xor_lt_two_pow (n := 64) hvl HKM.out)
            obtain ⟨vk, hvk⟩ : ∃ vk, v ^^^ km = vk := ⟨_, rfl⟩
            rw [hvk] at hx64 HVL HXY
            clear hvl hvk
            have HC4 : Hid (∀ (nn c : Nat) (w' : World), 8 ≤ nn → w'.heap = w2.heap → Calls Tryd.prog 35 #[.agg #[], .slice (some ⟨g, o + k, none⟩) nn c, .int .u64 vk] w' fun e w3 => e = .returned (.tuple #[]) ∧ w3 = (w'.alloc (.cells #[] 80)).setCells g (o + k) (Lib.byteCells [x0 ^^^ y0, x1 ^^^ y1, x2 ^^^ y2, x3 ^^^ y3, x4 ^^^ y4, x5 ^^^ y5, x6 ^^^ y6, x7 ^^^ y7])) := by
              refine Lib.hid fun nn c w' hnn hw => ?_
              obtain ⟨⟨c0, c1, c2, c3, c4, c5, c6, c7⟩, hf⟩ := hx.out.1 { wr with heap := wr.heap } rfl
              have hcell : ∀ i u, wr.cell? ⟨g, i, none⟩ = some u → w'.cell? ⟨g, i, none⟩ = some u := by
                intro i u hu
                have h1 := (HW3.out.cell (p := ⟨g, i, none⟩) HJ3.out.2.1.lt).trans hu
                simp only [World.cell?] at h1 ⊢
                rw [hw]; exact h1
              have hfz : ∀ i, i < 8 → w'.frozen? ⟨g, o + k + i, none⟩ = false := by
                intro i hi
                have h1 := (HW3.out.frozen (p := ⟨g, o + k + i, none⟩) HJ3.out.2.1.lt).trans (hf i hi)
                simp only [World.frozen?] at h1 ⊢
                rw [hw]; exact h1
              have h := Tryd.binary_BE_PutUint64 g (o + k) nn c vk HVL.out _ _ _ _ _ _ _ _ w' hnn (hcell _ _ c0) (hcell _ _ c1) (hcell _ _ c2) (hcell _ _ c3) (hcell _ _ c4) (hcell _ _ c5) (hcell _ _ c6) (hcell _ _ c7) (hfz 0 (by omega)) (hfz 1 (by omega)) (hfz 2 (by omega)) (hfz 3 (by omega)) (hfz 4 (by omega)) (hfz 5 (by omega)) (hfz 6 (by omega)) (hfz 7 (by omega))
              rw [HXY.out] at h
              exact h
            have i9 : (k : Int) ≤ (N : Int) + (s : Int) := by omega
            go_wp2_with fail
            go_region_with (go_at_call 35; (with_reducible refine (HC4.out _ _ _ ?hn ?hw).mono ?_); (case hn => omega); (case hw => rfl); rintro e w3 ⟨rfl, hw3⟩; (have HW4 := Lib.hid hw3); clear hw3)
            have HBB := Lib.hid (show But (fun k => k = g) wr w3 from by
              rw [HW4.out]
              exact But.setCells (S := fun k => k = g) rfl _ _ (But.of ((Below.drew HW3.out).alloc HW3.out.size _)))
            have HRR := Lib.hid (show ByteRow w3 g (mixU r.key r.kp B o (k + 8)) from by
              rw [HW4.out, hx.out.2]
              exact ByteRow.sets _ _ _ _ (HJ3.out.2.1.at (((Below.drew HW3.out).alloc HW3.out.size _).block g HJ3.out.2.1.lt)))
            clear HW4
            go_wp2_with fail
            go_roundg (q - j)
            case measure => omega
            case rel => exact ⟨j + 1, k + 8, by omega, by omega, by have := HK8.out; omega, by go_num, Lib.hid ⟨HJ3.out.1.at (HBB.out.block _ HJ3.out.1.lt (Ne.symm hgR)), HRR.out, HJ3.out.2.2.trans (HBB.out.mono fun _ _ h => Or.inl h)⟩⟩
          · obtain rfl : k = N := by have := HN.out; omega
            have hN4 : k % 4 = 0 := by have := HN.out; omega
            have HJ4 := Lib.hid HJ3.out
            clear HJ3 HKE HKM hy hk8 HN
            rcases Nat.eq_zero_or_pos s with rfl | hs
            · go_wp2_with fail
              all_goals
                go_loopg [4, 12] 1 (fun _ p i x => p = .int .i64 (r.kp : Int) ∧ i = .int .i64 0 ∧ Hid (RdAt x R r ∧ ByteRow x g (mixU r.key r.kp B o k) ∧ But (fun k => k = g ∨ k = R) w x))
                case atStart => exact ⟨rfl, rfl, HJ4⟩
                case round =>
                  obtain ⟨rfl, rfl, HJ5⟩ := hrel
                  have hand : bits .and .i64 (r.kp : Int) 3 = (((r.kp + (k + 0)) % 4 : Nat) : Int) := by have h := and3 r.kp (by omega); rw [h]; omega
                  have HM := Lib.hid (HJ5.out.1.set5 ((r.kp + (k + 0)) % 4))
                  obtain ⟨m, hm⟩ : ∃ m, (r.kp + (k + 0)) % 4 = m := ⟨_, rfl⟩
                  have hm4 : m < 4 := by omega
                  rw [hm] at hand HM
                  have f5 := HJ5.out.1.fz 5
                  have c5' := HJ5.out.1.c5
                  have hu : IntKind.u8.wrap (m : Int) = (m : Int) := by exact IntWalk.u8_in _ (by omega)
                  have HMM := Lib.hid hm
                  clear hm
                  go_wp2_with fail
                  go_end0
                  exact ⟨rfl, by rw [HMM.out]; exact HM.out, (HJ5.out.2.1.at (Below.heap_setCell _ _ _ _ hgR)), HJ5.out.2.2.setCell _ _ (Or.inr rfl)⟩
            · have i8 : ¬ (cap = k) := by omega
              go_wp2_with fail
              go_loopg [4, 12] (s + 1) (fun gk p i x => ∃ j : Nat, j ≤ s ∧ gk = s + 1 - j ∧ p = .int .i64 ((r.kp + j : Nat) : Int) ∧ i = .int .i64 j ∧ Hid (RdAt x R r ∧ ByteRow x g (mixU r.key r.kp B o (k + j)) ∧ But (fun k => k = g ∨ k = R) w x))
              case atStart => exact ⟨0, by omega, by omega, by go_num, rfl, HJ4⟩
              case round =>
                obtain ⟨j, hj, hg, rfl, rfl, HJ⟩ := hrel
                by_cases hjn : j < s
                · have hjB : o + (k + j) < B.length := by omega
                  have hx0 := HJ.out.2.1.cell (j := o + (k + j)) (c := B[o + (k + j)]) (by rw [mixU_far _ _ _ _ _ _ (Or.inr (Nat.le_refl _))]; exact List.getElem?_eq_getElem hjB)
                  have hfz := HJ.out.2.1.fz (j := o + (k + j)) (by rw [mixU_length]; exact hjB)
                  have hkk := HJ.out.1.key (r.kp + (k + j))
                  obtain ⟨m, hm⟩ : ∃ m, (r.kp + (k + j)) % 4 = m := ⟨_, rfl⟩
                  have hand : bits .and .i64 ((r.kp : Int) + (j : Int)) 3 = (m : Int) := by have h := and3 (r.kp + j) (by omega); rw [show (r.kp + j) % 4 = m from by omega] at h; exact h
                  have hm4 : m < 4 := by omega
                  rw [hm] at hkk
                  have hxor := xor8 B[o + (k + j)] (Fr.kat r.key (r.kp + (k + j)))
                  obtain ⟨xx, hxx⟩ : ∃ xx, B[o + (k + j)] ^^^ Fr.kat r.key (r.kp + (k + j)) = xx := ⟨_, rfl⟩
                  have HST := Lib.hid (mixU_step r.key r.kp B o (k + j) hjB)
                  rw [hxx] at hxor HST
                  clear hxx
                  generalize B[o + (k + j)] = bb at *
                  generalize Fr.kat r.key (r.kp + (k + j)) = kk at *
                  rw [← Nat.add_assoc o k j] at hx0 hfz HST
                  have b0 : (0 : Int) ≤ (j : Int) := by omega
                  have b1 : (j : Int) < (s : Int) := by omega
                  have b2 : (0 : Int) ≤ (m : Int) := by omega
                  have b3 : (m : Int) < 4 := by omega
                  clear hm
                  go_wp2_with fail
                  go_still_tail 12, (by kernel_rfl)
                  change wpList _ _ _ _ _ wr.drew
                  go_wp2_with fail
                  go_roundg (s - j)
                  case measure => omega
                  case rel => exact ⟨j + 1, by omega, by omega, by go_num, by go_num, Lib.hid ⟨(HJ.out.1.at (Below.heap_setCell _ _ _ _ (Ne.symm hgR))), by rw [← Nat.add_assoc, HST.out]; exact HJ.out.2.1.set _, (HJ.out.2.2.setCell _ _ (Or.inl rfl)).drewN 1⟩⟩
                · obtain rfl : j = s := by omega
                  obtain ⟨m, hm⟩ : ∃ m, (r.kp + (k + j)) % 4 = m := ⟨_, rfl⟩
                  have hand : bits .and .i64 ((r.kp : Int) + (j : Int)) 3 = (m : Int) := by have h := and3 (r.kp + j) (by omega); rw [show (r.kp + j) % 4 = m from by omega] at h; exact h
                  have hm4 : m < 4 := by omega
                  have HM := Lib.hid (HJ.out.1.set5 m)
                  have f5 := HJ.out.1.fz 5
                  have c5' := HJ.out.1.c5
                  have hu : IntKind.u8.wrap (m : Int) = (m : Int) := by exact IntWalk.u8_in _ (by omega)
                  have HMM := Lib.hid hm
                  clear hm
                  go_wp2_with fail
                  go_end0
                  exact ⟨rfl, by rw [HMM.out]; exact HM.out, (HJ.out.2.1.at (Below.heap_setCell _ _ _ _ hgR)), HJ.out.2.2.setCell _ _ (Or.inr rfl)⟩
end Go.Proofs.YtkkedekgniffoaaDoor
