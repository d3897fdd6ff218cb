/-
  reading a PUBLISH: ReadPublishPacket, impl.ReadPublish, awakePublish.
-/
import Derived.Test.YtjaodjeommkjgaaDoorPub
namespace Go.Proofs.YtjaodjeommkjgaaDoor
open Go.RowKit
open K (Lies)

theorem z77 : (Tryd.prog.info? 77).map (fun i => match i.zero with | some (.agg _) => true | _ => false) = some true := by kernel_rfl
theorem zero77 : ∃ cs, ∀ w, (zeroValue 77).run Tryd.prog w = .ok (.agg cs) w := by
  have h := z77
  cases hi : Tryd.prog.info? 77 with
  | none => rw [hi] at h; cases h
  | some i =>
    rw [hi] at h
    simp only [Option.map_some, Option.some.injEq] at h
    split at h
    · rename_i cs hz
      exact ⟨cs, fun w => by simp [zeroValue, typeInfo, hi, hz]⟩
    · cases h

theorem results_cell {fn : Func} {t u : Tmp} {T : TypeId} (h : fn.results = #[.cell t T, .tmp u]) (tmps : Array Value) (P : Program) (w : World) {v : Value} {ad : Addr} (ht : tmps.getD t undef = .pointer (some ad)) (hv : (loadVar T ad).run P w = .ok v w) :
    (results fn tmps).run P w = .ok (.tuple #[v, tmps.getD u undef]) w := by
  have e : (tmps[t]?.getD undef) = .pointer (some ad) := by simpa using ht
  simp [results, h, hv, e, asAddr]

def PacketPost (ab o m il pn id : Nat) (w : World) (e : Ending) (w' : World) : Prop :=
  ∃ c0 msg, e = .returned (.tuple #[.agg #[.slice (some ⟨ab, o + 2, none⟩) m c0, .int .u16 id, msg], .nilIface]) ∧ Below w.heap.size w w' ∧
    ((pn = 0 ∧ msg = .slice none 0 0) ∨ (0 < pn ∧ ∃ c1, msg = .slice (some ⟨ab, o + (2 + m + il), none⟩) pn c1))

set_option maxHeartbeats 4000000 in
set_option maxRecDepth 100000 in
theorem packet_any (ab o n cap fl id pn il : Nat) (l : List UInt8) (t : ByteArray) (w : World) (hP : Plain t false) (ht : t.size ≤ 100) (hfl : fl < 6) (hl : l.length = n) (hn : n ≤ 100000) (hnc : n ≤ cap)
    (hab : ab < w.heap.size)
    (hB : BytesAt w ab o l) (hT : BytesAt w ab (o + 2) t.data.toList) (hm : (l.getD 0 0).toNat * 256 + (l.getD 1 0).toNat = t.size)
    (hil : (fl / 2 = 0 ∧ il = 0 ∧ id = 0) ∨ (0 < fl / 2 ∧ il = 2 ∧ 0 < id ∧ (l.getD (2 + t.size) 0).toNat * 256 + (l.getD (2 + t.size + 1) 0).toNat = id)) (hnn : n = 2 + t.size + il + pn) :
    Calls Tryd.prog 24 #[.int .u8 fl, .slice (some ⟨ab, o, none⟩) n cap] w (PacketPost ab o t.size il pn id w) := by
  have hR : R0 (w.heap.size + 1) (.slice none 0 0) ((w.alloc (.cells #[.slice none 0 0, .int .u16 0, .slice none 0 0] 51)).alloc (.cells #[.slice none 0 0, .int .i64 0, .int .i64 0, .slice none 0 0, .bool false] 59)) := by
    have h := K.heap_alloc_at (w.alloc (.cells #[.slice none 0 0, .int .u16 0, .slice none 0 0] 51)) (.cells #[.slice none 0 0, .int .i64 0, .int .i64 0, .slice none 0 0, .bool false] 59)
    simpa [R0, Rd] using h
  have hX : ((w.alloc (.cells #[.slice none 0 0, .int .u16 0, .slice none 0 0] 51)).alloc (.cells #[.slice none 0 0, .int .i64 0, .int .i64 0, .slice none 0 0, .bool false] 59)).heap[w.heap.size]? = some (.cells #[.slice none 0 0, .int .u16 0, .slice none 0 0] 51) := by
    rw [Below.heap_alloc _ _ _ (by simp)]
    exact K.heap_alloc_at _ _
  have hW0 : Below w.heap.size w ((w.alloc (.cells #[.slice none 0 0, .int .u16 0, .slice none 0 0] 51)).alloc (.cells #[.slice none 0 0, .int .i64 0, .int .i64 0, .slice none 0 0, .bool false] 59)) := ((Below.refl _ w).alloc (Nat.le_refl _) _).alloc (by simp) _
  obtain ⟨cs, hz⟩ := zero77
  have HA := Lib.hid (And.intro hP (And.intro hl (And.intro hB (And.intro hT (And.intro hm (And.intro hil hnn))))))
  have hm0 := hP.1
  have hsz : ((w.alloc (.cells #[.slice none 0 0, .int .u16 0, .slice none 0 0] 51)).alloc (.cells #[.slice none 0 0, .int .i64 0, .int .i64 0, .slice none 0 0, .bool false] 59)).heap.size = w.heap.size + 2 := by simp
  clear hP hl hB hT hm hil hnn
  go_enter Tryd.func24, Tryd.ntmps24
  go_wp2_with fail
  generalize (w.alloc (.cells #[.slice none 0 0, .int .u16 0, .slice none 0 0] 51)).alloc (.cells #[.slice none 0 0, .int .i64 0, .int .i64 0, .slice none 0 0, .bool false] 59) = w0 at hR hX hW0 hsz ⊢
  refine (reset_any (w.heap.size + 1) _ n cap _ hR).mono ?_
  rintro e w1 ⟨rfl, hR1, hG1⟩
  have hX1 := (hG1.block w.heap.size (by omega) (by simp)).trans hX
  have hW1 : Below w.heap.size w w1 := hW0.grown hG1 (by omega) (fun k hk => by cases hk; omega)
  have hs1 := hG1.size
  have HR1 := Lib.hid hR1
  have HX1 := Lib.hid hX1
  have HW1 := Lib.hid hW1
  clear hR1 hG1 hR hX1 hX hW1 hW0
  have hP2 : Pb w1.heap.size (.slice none 0 0) (.slice none 0 0) (.slice none 0 0) (.slice none 0 0) (.int .i64 0) (.int .u16 0) (.int .u8 fl) ((w1.alloc (.cells #[.slice none 0 0, .slice none 0 0, .slice none 0 0, .slice none 0 0, .int .i64 0, .int .u16 0, .int .u8 fl] 65)).alloc (.cells cs 77)) := by
    unfold Pb
    rw [Below.heap_alloc _ _ _ (by simp)]
    exact K.heap_alloc_at _ _
  have hB2 : Below w1.heap.size w1 ((w1.alloc (.cells #[.slice none 0 0, .slice none 0 0, .slice none 0 0, .slice none 0 0, .int .i64 0, .int .u16 0, .int .u8 fl] 65)).alloc (.cells cs 77)) := ((Below.refl _ w1).alloc (Nat.le_refl _) _).alloc (by simp) _
  have hs2 : ((w1.alloc (.cells #[.slice none 0 0, .slice none 0 0, .slice none 0 0, .slice none 0 0, .int .i64 0, .int .u16 0, .int .u8 fl] 65)).alloc (.cells cs 77)).heap.size = w1.heap.size + 2 := by simp
  go_wp2_with fail
  generalize (w1.alloc (.cells #[.slice none 0 0, .slice none 0 0, .slice none 0 0, .slice none 0 0, .int .i64 0, .int .u16 0, .int .u8 fl] 65)).alloc (.cells cs 77) = w2 at hP2 hB2 hs2 ⊢
  have hR2 := Rd.below HR1.out hB2 (by omega)
  have hX2 := (hB2.block w.heap.size (by omega)).trans HX1.out
  have hW2 : Below w.heap.size w w2 := HW1.out.trans (hB2.mono (by omega))
  refine (parse_any (w1.heap.size + 1) (w.heap.size + 1) w1.heap.size (w.heap.size + 1) ab o n cap fl id pn il l t w2 HA.out.1 ht hfl HA.out.2.1 hn hnc (by omega) (by omega) (by omega) (HA.out.2.2.1.below hW2 hab) (HA.out.2.2.2.1.below hW2 hab) HA.out.2.2.2.2.1 HA.out.2.2.2.2.2.1 HA.out.2.2.2.2.2.2 hR2 hP2).mono ?_
  rintro e w3 ⟨sub, sz, c0, msg, rfl, hP3, hB3, hmsg⟩
  have hX3 := (hB3.block w.heap.size (by omega)).trans hX2
  have hW3 : Below w.heap.size w w3 := hW2.trans (hB3.mono (by omega))
  have p0 := hP3.c0
  have p5 := hP3.c5
  have p3 := hP3.c3
  have x0 : w3.cell? ⟨w.heap.size, 0, none⟩ = some (.slice none 0 0) := by simp [World.cell?, hX3]
  have x1 : w3.cell? ⟨w.heap.size, 1, none⟩ = some (.int .u16 0) := by simp [World.cell?, hX3]
  have x2 : w3.cell? ⟨w.heap.size, 2, none⟩ = some (.slice none 0 0) := by simp [World.cell?, hX3]
  have y0 : w3.frozen? ⟨w.heap.size, 0, none⟩ = false := by simp [World.frozen?, hX3]
  have y1 : w3.frozen? ⟨w.heap.size, 1, none⟩ = false := by simp [World.frozen?, hX3]
  have y2 : w3.frozen? ⟨w.heap.size, 2, none⟩ = false := by simp [World.frozen?, hX3]
  have hne1 : w.heap.size ≠ w1.heap.size := by omega
  have hne2 : w1.heap.size ≠ w.heap.size := by omega
  have HW3 := Lib.hid hW3
  have HX3 := Lib.hid hX3
  clear hP3 hB3 hX3 hW3 hR2 hX2 hW2 hP2 hB2 HA
  generalize w1.heap.size = P at *
  rcases hmsg with ⟨hpn, rfl⟩ | ⟨hpn, c1, rfl⟩
  · go_wp2_with fail
    go_still_tail 13, (by kernel_rfl)
    change wpList _ _ _ _ _ w3.drew
    go_wp2_with fail
    have hrow : (((w3.setCell ⟨w.heap.size, 0, none⟩ (.slice (some ⟨ab, o + 2, none⟩) t.size c0)).setCell ⟨w.heap.size, 1, none⟩ (.int .u16 id)).setCell ⟨w.heap.size, 2, none⟩ (.slice none 0 0)).drew.heap[w.heap.size]? = some (.cells #[.slice (some ⟨ab, o + 2, none⟩) t.size c0, .int .u16 id, .slice none 0 0] 51 (0, 0)) := K.heap_setCell_at (K.heap_setCell_at (K.heap_setCell_at HX3.out _) _) _
    refine bodyPost_ret (results_cell (ad := ⟨w.heap.size, 0, none⟩) rfl _ _ _ rfl (run_loadVar_row _ _ _ _ _ _ _ hrow Tryd.underlying51 rfl (by kernel_rfl))) rfl ?_
    exact ⟨c0, _, rfl, Below.drew (((HW3.out.setCell (Nat.le_refl _) _).setCell (Nat.le_refl _) _).setCell (Nat.le_refl _) _), Or.inl ⟨hpn, rfl⟩⟩
  · go_wp2_with fail
    go_still_tail 13, (by kernel_rfl)
    change wpList _ _ _ _ _ w3.drew
    go_wp2_with fail
    have hrow : (((w3.setCell ⟨w.heap.size, 0, none⟩ (.slice (some ⟨ab, o + 2, none⟩) t.size c0)).setCell ⟨w.heap.size, 1, none⟩ (.int .u16 id)).setCell ⟨w.heap.size, 2, none⟩ (.slice (some ⟨ab, o + (2 + t.size + il), none⟩) pn c1)).drew.heap[w.heap.size]? = some (.cells #[.slice (some ⟨ab, o + 2, none⟩) t.size c0, .int .u16 id, .slice (some ⟨ab, o + (2 + t.size + il), none⟩) pn c1] 51 (0, 0)) := K.heap_setCell_at (K.heap_setCell_at (K.heap_setCell_at HX3.out _) _) _
    refine bodyPost_ret (results_cell (ad := ⟨w.heap.size, 0, none⟩) rfl _ _ _ rfl (run_loadVar_row _ _ _ _ _ _ _ hrow Tryd.underlying51 rfl (by kernel_rfl))) rfl ?_
    exact ⟨c0, _, rfl, Below.drew (((HW3.out.setCell (Nat.le_refl _) _).setCell (Nat.le_refl _) _).setCell (Nat.le_refl _) _), Or.inr ⟨hpn, c1, rfl⟩⟩
end Go.Proofs.YtjaodjeommkjgaaDoor
