/-
  impl.ReadPublish on a PUBLISH with a plain topic; awakePublish says yes.
-/
import Derived.Test.YtjaodjeommkjgaaDoorPacket
namespace Go.Proofs.YtjaodjeommkjgaaDoor
open Go.RowKit
open K (Lies)

theorem bytesAt_left {w : World} {ab o : Nat} {a b : List UInt8} (h : BytesAt w ab o (a ++ b)) : BytesAt w ab o a := by
  intro j hj
  rw [h j (by simp; omega)]
  simp [List.getD, List.getElem?_append_left hj]
theorem bytesAt_right {w : World} {ab o k : Nat} {a b : List UInt8} (h : BytesAt w ab o (a ++ b)) (hk : a.length = k) : BytesAt w ab (o + k) b := by
  intro j hj
  subst hk
  rw [Nat.add_assoc, h (a.length + j) (by simp; omega)]
  simp only [List.getD]
  rw [List.getElem?_append_right (by omega), Nat.add_sub_cancel_left]

theorem conv_nil (w : World) : (convert 37 9 (.slice none 0 0)).run Tryd.prog w = .ok (.string ⟨#[]⟩) w := run_convert_bytes_nil w 37 5 underlyings.2.1 underlyings.2.2 0 0 9 underlyings.1

def PubPost (fl id : Nat) (t pay : ByteArray) (w : World) (e : Ending) (w' : World) : Prop :=
  e = .returned (.tuple #[.agg #[.int .u8 fl, .string t, .int .u16 id, .string pay], .bool true]) ∧ Below w.heap.size w w'

set_option maxHeartbeats 4000000 in
set_option maxRecDepth 100000 in
theorem publish_any (s t pay : ByteArray) (x y : UInt8) (idl : List UInt8) (fl id : Nat) (w : World) (hP : Plain t false) (ht : t.size ≤ 100) (hpay : pay.size ≤ 1000) (hfl : fl < 6)
    (hs : s.data.toList = x :: y :: (t.data.toList ++ (idl ++ pay.data.toList))) (hm : x.toNat * 256 + y.toNat = t.size)
    (hil : (fl / 2 = 0 ∧ idl = [] ∧ id = 0) ∨ (0 < fl / 2 ∧ ∃ a b, idl = [a, b] ∧ 0 < id ∧ a.toNat * 256 + b.toNat = id)) :
    Calls Tryd.prog 17 #[.int .u8 fl, .string s] w (PubPost fl id t pay w) := by
  have hcv := conv_bytes (w.alloc (.cells #[.int .u8 0, .string ⟨#[]⟩, .int .u16 0, .string ⟨#[]⟩] 35)) s
  have hB := bytesAt_world (w.alloc (.cells #[.int .u8 0, .string ⟨#[]⟩, .int .u16 0, .string ⟨#[]⟩] 35)) s
  have hsz := Lib.bytesWorld_size (w.alloc (.cells #[.int .u8 0, .string ⟨#[]⟩, .int .u16 0, .string ⟨#[]⟩] 35)) 5 s
  have hbb := K.bytesWorld_below (w.alloc (.cells #[.int .u8 0, .string ⟨#[]⟩, .int .u16 0, .string ⟨#[]⟩] 35)) 5 s
  have hX : (w.alloc (.cells #[.int .u8 0, .string ⟨#[]⟩, .int .u16 0, .string ⟨#[]⟩] 35)).heap[w.heap.size]? = some (.cells #[.int .u8 0, .string ⟨#[]⟩, .int .u16 0, .string ⟨#[]⟩] 35) := K.heap_alloc_at _ _
  have hW : Below w.heap.size w (w.alloc (.cells #[.int .u8 0, .string ⟨#[]⟩, .int .u16 0, .string ⟨#[]⟩] 35)) := (Below.refl _ w).alloc (Nat.le_refl _) _
  have hcap : s.size ≤ grownCap (w.alloc (.cells #[.int .u8 0, .string ⟨#[]⟩, .int .u16 0, .string ⟨#[]⟩] 35)) s.size 0 5 := grownCap_ge _ _ _ _
  have hs0 : (w.alloc (.cells #[.int .u8 0, .string ⟨#[]⟩, .int .u16 0, .string ⟨#[]⟩] 35)).heap.size = w.heap.size + 1 := by simp
  generalize hZ : (w.alloc (.cells #[.int .u8 0, .string ⟨#[]⟩, .int .u16 0, .string ⟨#[]⟩] 35)) = W0 at *
  rw [hs0] at hcv hB
  have hlen : s.size = 2 + t.size + idl.length + pay.size := by rw [← K.bsize, hs]; simp [K.bsize]; omega
  have hidl : idl.length ≤ 2 := by
    rcases hil with ⟨_, rfl, _⟩ | ⟨_, a, b, rfl, _⟩ <;> simp
  have hT : BytesAt (Lib.bytesWorld W0 5 s) (w.heap.size + 1) 2 t.data.toList := by
    have h := hB
    rw [hs, show x :: y :: (t.data.toList ++ (idl ++ pay.data.toList)) = [x, y] ++ (t.data.toList ++ (idl ++ pay.data.toList)) from rfl] at h
    have h2 := bytesAt_left (bytesAt_right (k := 2) h rfl)
    simpa using h2
  have hPay : BytesAt (Lib.bytesWorld W0 5 s) (w.heap.size + 1) (2 + t.size + idl.length) pay.data.toList := by
    have h := hB
    rw [hs, show x :: y :: (t.data.toList ++ (idl ++ pay.data.toList)) = [x, y] ++ (t.data.toList ++ (idl ++ pay.data.toList)) from rfl] at h
    have h2 := bytesAt_right (k := idl.length) (bytesAt_right (k := t.size) (bytesAt_right (k := 2) h rfl) (K.bsize t)) rfl
    simpa using h2
  have h24 := packet_any (w.heap.size + 1) 0 s.size (grownCap W0 s.size 0 5) fl id pay.size idl.length s.data.toList t (Lib.bytesWorld W0 5 s) hP ht hfl (K.bsize s) (by omega) hcap (by rw [hsz]; omega) hB (by simpa using hT) (by rw [hs]; exact hm)
    (by
      rcases hil with ⟨h1, rfl, h3⟩ | ⟨h1, a, b, rfl, h3, h4⟩
      · exact Or.inl ⟨h1, rfl, h3⟩
      · refine Or.inr ⟨h1, rfl, h3, ?_⟩
        rw [hs]
        have e1 : (x :: y :: (t.data.toList ++ ([a, b] ++ pay.data.toList))).getD (2 + t.size) 0 = a := by
          rw [show x :: y :: (t.data.toList ++ ([a, b] ++ pay.data.toList)) = ([x, y] ++ t.data.toList) ++ ([a, b] ++ pay.data.toList) from rfl, List.getD, List.getElem?_append_right (by simp [K.bsize]; omega)]
          simp [K.bsize, show 2 + t.size - (t.size + 2) = 0 from by omega]
        have e2 : (x :: y :: (t.data.toList ++ ([a, b] ++ pay.data.toList))).getD (2 + t.size + 1) 0 = b := by
          rw [show x :: y :: (t.data.toList ++ ([a, b] ++ pay.data.toList)) = ([x, y] ++ t.data.toList) ++ ([a, b] ++ pay.data.toList) from rfl, List.getD, List.getElem?_append_right (by simp [K.bsize]; omega)]
          simp [K.bsize, show 2 + t.size + 1 - (t.size + 2) = 1 from by omega]
        rw [e1, e2]; exact h4) hlen
  have hX2 := (hbb.block w.heap.size (by omega)).trans hX
  have hW2 := hW.trans (hbb.mono (by omega))
  have HA := Lib.hid (And.intro hT (And.intro hPay (And.intro hX2 hW2)))
  have HLEN := Lib.hid (And.intro hlen hidl)
  clear hB hT hPay hX hX2 hW hW2 hil hs hm hP hbb hlen hidl
  generalize grownCap W0 s.size 0 5 = cp at *
  generalize Lib.bytesWorld W0 5 s = W1 at *
  subst hZ
  go_enter Tryd.func17, Tryd.ntmps17
  go_wp2_with fail
  refine h24.mono ?_
  rintro e w3 ⟨c0, msg, rfl, hb3, hmsg⟩
  have hX3 := (hb3.block w.heap.size (by omega)).trans HA.out.2.2.1
  have hW3 : Below w.heap.size w w3 := HA.out.2.2.2.trans (hb3.mono (by omega))
  have hT3 := HA.out.1.below hb3 (by omega)
  have hPay3 := HA.out.2.1.below hb3 (by omega)
  have hs3 : w.heap.size < w3.heap.size := by have := hb3.size; omega
  have hmsg2 : ∃ p n c, msg = .slice p n c ∧ ∀ W, BytesAt W (w.heap.size + 1) (2 + t.size + idl.length) pay.data.toList → (convert 37 9 (.slice p n c)).run Tryd.prog W = .ok (.string pay) W := by
    rcases hmsg with ⟨h0, rfl⟩ | ⟨h0, c1, rfl⟩
    · refine ⟨none, 0, 0, rfl, fun W _ => ?_⟩
      rw [conv_nil]
      congr 2
      exact ba_ext (by have : pay.data.toList.length = 0 := by rw [K.bsize]; exact h0
                       rw [List.length_eq_zero_iff.1 this])
    · refine ⟨_, _, _, rfl, fun W hW => ?_⟩
      rw [Nat.zero_add]
      exact conv_slice W _ _ _ _ pay.data.toList (K.bsize pay) hW
  obtain ⟨p, pn, pc, rfl, hconv⟩ := hmsg2
  have hT4 : BytesAt (w3.alloc (.cells #[.slice (some ⟨w.heap.size + 1, 0 + 2, none⟩) t.size c0, .int .u16 id, .slice p pn pc] 51)) (w.heap.size + 1) 2 t.data.toList := hT3.below ((Below.refl _ w3).alloc (Nat.le_refl _) _) (by have := hb3.size; omega)
  have hv1 := conv_slice _ _ _ t.size c0 t.data.toList (K.bsize t) hT4
  have hv2 := hconv (w3.alloc (.cells #[.slice (some ⟨w.heap.size + 1, 0 + 2, none⟩) t.size c0, .int .u16 id, .slice p pn pc] 51)) (hPay3.below ((Below.refl _ w3).alloc (Nat.le_refl _) _) (by have := hb3.size; omega))
  have hX4 : (w3.alloc (.cells #[.slice (some ⟨w.heap.size + 1, 0 + 2, none⟩) t.size c0, .int .u16 id, .slice p pn pc] 51)).heap[w.heap.size]? = some (.cells #[.int .u8 0, .string ⟨#[]⟩, .int .u16 0, .string ⟨#[]⟩] 35) := (Below.heap_alloc _ _ _ hs3).trans hX3
  have hW4 : Below w.heap.size w (w3.alloc (.cells #[.slice (some ⟨w.heap.size + 1, 0 + 2, none⟩) t.size c0, .int .u16 id, .slice p pn pc] 51)) := hW3.alloc (by omega) _
  clear hT4 hconv hT3 hPay3 hmsg hb3 h24 hcv
  rw [Nat.zero_add] at *
  have x0 : w3.cell? ⟨w.heap.size, 0, none⟩ = some (.int .u8 0) := by simp only [World.cell?, hX3]; rfl
  have y0 : w3.frozen? ⟨w.heap.size, 0, none⟩ = false := by simp only [World.frozen?, hX3]; rfl
  have x1 : w3.cell? ⟨w.heap.size, 1, none⟩ = some (.string ⟨#[]⟩) := by simp only [World.cell?, hX3]; rfl
  have y1 : w3.frozen? ⟨w.heap.size, 1, none⟩ = false := by simp only [World.frozen?, hX3]; rfl
  have x2 : w3.cell? ⟨w.heap.size, 2, none⟩ = some (.int .u16 0) := by simp only [World.cell?, hX3]; rfl
  have y2 : w3.frozen? ⟨w.heap.size, 2, none⟩ = false := by simp only [World.frozen?, hX3]; rfl
  have x3 : w3.cell? ⟨w.heap.size, 3, none⟩ = some (.string ⟨#[]⟩) := by simp only [World.cell?, hX3]; rfl
  have y3 : w3.frozen? ⟨w.heap.size, 3, none⟩ = false := by simp only [World.frozen?, hX3]; rfl
  have HX3 := Lib.hid hX3
  have HW3 := Lib.hid hW3
  clear hX4 hW4 hX3 hW3 HA
  go_wp2_with fail
  have hrow := (Below.heap_alloc ((((w3.setCell ⟨w.heap.size, 0, none⟩ (.int .u8 fl)).setCell ⟨w.heap.size, 1, none⟩ (.string t)).setCell ⟨w.heap.size, 2, none⟩ (.int .u16 id)).setCell ⟨w.heap.size, 3, none⟩ (.string pay)) (.cells #[.slice (some ⟨w.heap.size + 1, 2, none⟩) t.size c0, .int .u16 id, .slice p pn pc] 51) w.heap.size (by simp; omega)).trans (K.heap_setCell_at (i := 3) (K.heap_setCell_at (i := 2) (K.heap_setCell_at (i := 1) (K.heap_setCell_at (i := 0) HX3.out (.int .u8 fl)) (.string t)) (.int .u16 id)) (.string pay))
  refine bodyPost_ret (results_cell (ad := ⟨w.heap.size, 0, none⟩) rfl _ _ _ rfl (run_loadVar_row _ _ _ _ _ _ _ hrow Tryd.underlying35 rfl (by kernel_rfl))) rfl ?_
  exact ⟨rfl, ((((HW3.out.setCell (Nat.le_refl _) _).setCell (Nat.le_refl _) _).setCell (Nat.le_refl _) _).setCell (Nat.le_refl _) _).alloc (by simp; omega) _⟩

def YesPost (w : World) (e : Ending) (w' : World) : Prop := e = .returned (.bool true) ∧ Below w.heap.size w w'
theorem plain_a : Plain ⟨#[97]⟩ false := by
  refine ⟨by decide, fun k hk => ?_⟩
  have : k = 0 := by have : (⟨#[97]⟩ : ByteArray).size = 1 := rfl; omega
  subst this
  exact Or.inl (Or.inl (by decide))

set_option maxRecDepth 100000 in
theorem awake_any (w : World) : Calls Tryd.prog 15 #[] w (YesPost w) := by
  have h17 := publish_any ⟨#[0, 1, 97, 120]⟩ ⟨#[97]⟩ ⟨#[120]⟩ 0 1 [] 0 0 w plain_a (by decide) (by decide) (by omega) rfl rfl (Or.inl ⟨rfl, rfl, rfl⟩)
  go_enter Tryd.func15, Tryd.ntmps15
  go_wp2_with fail
  refine h17.mono ?_
  rintro e w1 ⟨rfl, hb⟩
  have HB := Lib.hid (hb.alloc hb.size (.cells #[.int .u8 0, .string ⟨#[97]⟩, .int .u16 0, .string ⟨#[120]⟩] 35))
  clear hb h17
  go_wp2_with fail
  go_ret
  exact ⟨rfl, HB.out⟩
end Go.Proofs.YtjaodjeommkjgaaDoor
