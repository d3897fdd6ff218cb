/-
  The reference's mapPut. Printed by wip/py/gen_mq.py.
-/
import Derived.Test.YtocfcajafkkhdaaDoorZWn
import Derived.Test.YtocfcajafkkhdaaDoorZG6
import Derived.Test.YtocfcajafkkhdaaDoorZG9
namespace Go.Proofs.YtocfcajafkkhdaaDoor
open Go.RowKit

/-- what a piece makes of the wildcards' words -/
def PutIs (p : Pi) (ss : List (List UInt8)) (o : List UInt8) : Prop :=
  (p.fn = 0 ∧ o = p.word.data.toList) ∨
  (p.fn = 3 ∧ ∃ (ts : List Nat) (N : Nat), p.all = ts.map (fun (t : Nat) => (t : Int) + 1) ∧ (∀ t ∈ ts, t < ss.length) ∧ p.n = (N : Int) ∧ 1 ≤ N ∧ N ≤ 1000 ∧ o = hashed N (gat ss ts)) ∨
  (∃ t : Nat, p.at_ = (t : Int) + 1 ∧ t < ss.length ∧
    (((p.fn = 1 ∨ p.fn = 2) ∧ o = ss.getD t []) ∨
     (p.fn = 4 ∧ ∃ m : UInt8, p.word.data.toList = [m] ∧ (∀ u ∈ sp m (ss.getD t []), u ≠ []) ∧ o = jn 46 (sp m (ss.getD t []))) ∨
     (∃ N : Nat, p.n = (N : Int) ∧ 1 ≤ N ∧ N ≤ 1000 ∧ N < (ss.getD t []).length ∧
      ((p.fn = 5 ∧ o = (ss.getD t []).take N ++ 46 :: (ss.getD t []).drop N) ∨ (p.fn = 6 ∧ o = (ss.getD t []).take ((ss.getD t []).length - N) ++ 46 :: (ss.getD t []).drop ((ss.getD t []).length - N)) ∨
       (p.fn = 7 ∧ o = dots (cL N) (ss.getD t []) (ss.getD t []).length) ∨ (p.fn = 8 ∧ o = dots (cR N (ss.getD t []).length) (ss.getD t []) (ss.getD t []).length) ∨
       (p.fn = 9 ∧ o = (ss.getD t []).take N) ∨ (p.fn = 10 ∧ o = (ss.getD t []).drop ((ss.getD t []).length - N))))))
def PtPost (p : Pi) (ss : List (List UInt8)) (w : World) (e : Ending) (w' : World) : Prop :=
  ∃ (b : Bool) (t : ByteArray), e = .returned (.tuple #[.string t, .bool b]) ∧ Below w.heap.size w w' ∧ t.size ≤ 200 ∧ (b = true → PutIs p ss t.data.toList)
theorem quiet_of_vis {f : FuncId} {args : Array Value} {v : Value} {W w : World} (hw : K.Grew W w) (h : Calls Tryd.prog f args w (VIs v fun w' => w' = w)) : Calls Tryd.prog f args w (fun e w' => e = .returned v ∧ K.Grew W w') :=
  h.mono fun _ _ ⟨he, hb⟩ => ⟨he, by rw [hb]; exact hw⟩
theorem s46 : (⟨#[46]⟩ : ByteArray).size = 1 := rfl
theorem PtPost.mk {p : Pi} {ss : List (List UInt8)} {w w' : World} (b : Bool) (t : ByteArray) (h : Below w.heap.size w w') (h2 : t.size ≤ 200) (h3 : b = true → PutIs p ss t.data.toList) : PtPost p ss w (.returned (.tuple #[.string t, .bool b])) w' := ⟨b, t, rfl, h, h2, h3⟩
set_option maxHeartbeats 8000000 in
set_option maxRecDepth 100000 in
theorem put_0 (at_ n : Int) (word : ByteArray) (all : List Int) (A : Option Addr) (c : Nat) (w : World) (hw : word.size ≤ 20) (ss : List (List UInt8)) (B : Option Addr) (d : Nat) (_hS : K.Lies w B ss.length (fun j => (ss.map sv).getD j undef)) (_hsl : ∀ u ∈ ss, u.length ≤ 20) (_hsn : ∀ u ∈ ss, u ≠ []) (_hn : ss.length ≤ 8) : Calls Tryd.prog 20 #[(⟨0, at_, n, word, all⟩ : Pi).v A c, .slice B ss.length d] w (PtPost ⟨0, at_, n, word, all⟩ ss w) := by
  unfold Pi.v
  have hbk := K.heap_alloc_at w (.cells #[.int .i64 0, .int .i64 at_, .int .i64 n, .string word, .slice A all.length c] 41)
  have hb : Below w.heap.size w (w.alloc (.cells #[.int .i64 0, .int .i64 at_, .int .i64 n, .string word, .slice A all.length c] 41)) := (Below.refl _ w).alloc (Nat.le_refl _) _
  obtain ⟨wb, hwb⟩ : ∃ wb, w.alloc (.cells #[.int .i64 0, .int .i64 at_, .int .i64 n, .string word, .slice A all.length c] 41) = wb := ⟨_, rfl⟩
  rw [hwb] at hbk hb
  have c0 : wb.cell? ⟨w.heap.size, 0, none⟩ = some (.int .i64 0) := by rw [Lib.cell_of_heap hbk]; rfl
  have c1 : wb.cell? ⟨w.heap.size, 1, none⟩ = some (.int .i64 at_) := by rw [Lib.cell_of_heap hbk]; rfl
  have c2 : wb.cell? ⟨w.heap.size, 2, none⟩ = some (.int .i64 n) := by rw [Lib.cell_of_heap hbk]; rfl
  have c3 : wb.cell? ⟨w.heap.size, 3, none⟩ = some (.string word) := by rw [Lib.cell_of_heap hbk]; rfl
  have c4 : wb.cell? ⟨w.heap.size, 4, none⟩ = some (.slice A all.length c) := by rw [Lib.cell_of_heap hbk]; rfl
  have HB := Lib.hid hb
  clear hbk hb
  clear _hS _hsl _hsn
  go_enter Tryd.func20, Tryd.ntmps20
  go_wp2_with fail
  go_ret2
  exact PtPost.mk true word HB.out (by omega) (fun _ => .inl ⟨rfl, rfl⟩)
set_option maxHeartbeats 8000000 in
set_option maxRecDepth 100000 in
theorem put_1 (t : Nat) (n : Int) (word : ByteArray) (all : List Int) (A : Option Addr) (c : Nat) (w : World) (_hw : word.size ≤ 20) (ss : List (List UInt8)) (B : Option Addr) (d : Nat) (hS : K.Lies w B ss.length (fun j => (ss.map sv).getD j undef)) (hsl : ∀ u ∈ ss, u.length ≤ 20) (hsn : ∀ u ∈ ss, u ≠ []) (hn : ss.length ≤ 8) (ht : t < ss.length) : Calls Tryd.prog 20 #[(⟨1, ((t : Int) + 1), n, word, all⟩ : Pi).v A c, .slice B ss.length d] w (PtPost ⟨1, ((t : Int) + 1), n, word, all⟩ ss w) := by
  unfold Pi.v
  have hbk := K.heap_alloc_at w (.cells #[.int .i64 1, .int .i64 ((t : Int) + 1), .int .i64 n, .string word, .slice A all.length c] 41)
  have hb : Below w.heap.size w (w.alloc (.cells #[.int .i64 1, .int .i64 ((t : Int) + 1), .int .i64 n, .string word, .slice A all.length c] 41)) := (Below.refl _ w).alloc (Nat.le_refl _) _
  obtain ⟨wb, hwb⟩ : ∃ wb, w.alloc (.cells #[.int .i64 1, .int .i64 ((t : Int) + 1), .int .i64 n, .string word, .slice A all.length c] 41) = wb := ⟨_, rfl⟩
  rw [hwb] at hbk hb
  have c0 : wb.cell? ⟨w.heap.size, 0, none⟩ = some (.int .i64 1) := by rw [Lib.cell_of_heap hbk]; rfl
  have c1 : wb.cell? ⟨w.heap.size, 1, none⟩ = some (.int .i64 ((t : Int) + 1)) := by rw [Lib.cell_of_heap hbk]; rfl
  have c2 : wb.cell? ⟨w.heap.size, 2, none⟩ = some (.int .i64 n) := by rw [Lib.cell_of_heap hbk]; rfl
  have c3 : wb.cell? ⟨w.heap.size, 3, none⟩ = some (.string word) := by rw [Lib.cell_of_heap hbk]; rfl
  have c4 : wb.cell? ⟨w.heap.size, 4, none⟩ = some (.slice A all.length c) := by rw [Lib.cell_of_heap hbk]; rfl
  have HB := Lib.hid hb
  obtain ⟨bb, bo, rfl, hbb, hbc⟩ := hS (by omega)
  have cS : wb.cell? ⟨bb, bo + t, none⟩ = some (sv (ss.getD t [])) := by
    refine (hb.cell (p := ⟨bb, bo + t, none⟩) hbb).trans ((hbc t ht).trans ?_)
    simp [List.getD, ht]
  have hmem : ss.getD t [] ∈ ss := by rw [List.getD, List.getElem?_eq_getElem ht]; exact List.getElem_mem ht
  have hul := hsl _ hmem
  have hun := hsn _ hmem
  obtain ⟨sw, hsw⟩ : ∃ sw : ByteArray, sv (ss.getD t []) = .string sw := ⟨_, rfl⟩
  have hswl : sw.data.toList = ss.getD t [] := by unfold sv at hsw; injection hsw with hsw; rw [← hsw]
  rw [hsw] at cS
  have hsz : sw.size ≤ 20 := by rw [← K.bsize, hswl]; exact hul
  have hs0 : 0 < sw.size := by rw [← K.bsize, hswl]; exact List.length_pos_iff.2 hun
  have HSW := Lib.hid (And.intro hswl ht)
  have i0 : (t : Int) < (ss.length : Int) := by omega
  clear hbc hmem hul hun hsw hswl hsl hsn
  clear hbk hb
  go_enter Tryd.func20, Tryd.ntmps20
  go_wp2_with fail
  go_ret2
  exact PtPost.mk true sw HB.out (by omega) (fun _ => .inr (.inr ⟨t, rfl, HSW.out.2, .inl ⟨.inl rfl, HSW.out.1⟩⟩))
set_option maxHeartbeats 8000000 in
set_option maxRecDepth 100000 in
theorem put_2 (t : Nat) (n : Int) (word : ByteArray) (all : List Int) (A : Option Addr) (c : Nat) (w : World) (_hw : word.size ≤ 20) (ss : List (List UInt8)) (B : Option Addr) (d : Nat) (hS : K.Lies w B ss.length (fun j => (ss.map sv).getD j undef)) (hsl : ∀ u ∈ ss, u.length ≤ 20) (hsn : ∀ u ∈ ss, u ≠ []) (hn : ss.length ≤ 8) (ht : t < ss.length) : Calls Tryd.prog 20 #[(⟨2, ((t : Int) + 1), n, word, all⟩ : Pi).v A c, .slice B ss.length d] w (PtPost ⟨2, ((t : Int) + 1), n, word, all⟩ ss w) := by
  unfold Pi.v
  have hbk := K.heap_alloc_at w (.cells #[.int .i64 2, .int .i64 ((t : Int) + 1), .int .i64 n, .string word, .slice A all.length c] 41)
  have hb : Below w.heap.size w (w.alloc (.cells #[.int .i64 2, .int .i64 ((t : Int) + 1), .int .i64 n, .string word, .slice A all.length c] 41)) := (Below.refl _ w).alloc (Nat.le_refl _) _
  obtain ⟨wb, hwb⟩ : ∃ wb, w.alloc (.cells #[.int .i64 2, .int .i64 ((t : Int) + 1), .int .i64 n, .string word, .slice A all.length c] 41) = wb := ⟨_, rfl⟩
  rw [hwb] at hbk hb
  have c0 : wb.cell? ⟨w.heap.size, 0, none⟩ = some (.int .i64 2) := by rw [Lib.cell_of_heap hbk]; rfl
  have c1 : wb.cell? ⟨w.heap.size, 1, none⟩ = some (.int .i64 ((t : Int) + 1)) := by rw [Lib.cell_of_heap hbk]; rfl
  have c2 : wb.cell? ⟨w.heap.size, 2, none⟩ = some (.int .i64 n) := by rw [Lib.cell_of_heap hbk]; rfl
  have c3 : wb.cell? ⟨w.heap.size, 3, none⟩ = some (.string word) := by rw [Lib.cell_of_heap hbk]; rfl
  have c4 : wb.cell? ⟨w.heap.size, 4, none⟩ = some (.slice A all.length c) := by rw [Lib.cell_of_heap hbk]; rfl
  have HB := Lib.hid hb
  obtain ⟨bb, bo, rfl, hbb, hbc⟩ := hS (by omega)
  have cS : wb.cell? ⟨bb, bo + t, none⟩ = some (sv (ss.getD t [])) := by
    refine (hb.cell (p := ⟨bb, bo + t, none⟩) hbb).trans ((hbc t ht).trans ?_)
    simp [List.getD, ht]
  have hmem : ss.getD t [] ∈ ss := by rw [List.getD, List.getElem?_eq_getElem ht]; exact List.getElem_mem ht
  have hul := hsl _ hmem
  have hun := hsn _ hmem
  obtain ⟨sw, hsw⟩ : ∃ sw : ByteArray, sv (ss.getD t []) = .string sw := ⟨_, rfl⟩
  have hswl : sw.data.toList = ss.getD t [] := by unfold sv at hsw; injection hsw with hsw; rw [← hsw]
  rw [hsw] at cS
  have hsz : sw.size ≤ 20 := by rw [← K.bsize, hswl]; exact hul
  have hs0 : 0 < sw.size := by rw [← K.bsize, hswl]; exact List.length_pos_iff.2 hun
  have HSW := Lib.hid (And.intro hswl ht)
  have i0 : (t : Int) < (ss.length : Int) := by omega
  clear hbc hmem hul hun hsw hswl hsl hsn
  clear hbk hb
  go_enter Tryd.func20, Tryd.ntmps20
  go_wp2_with fail
  go_ret2
  exact PtPost.mk true sw HB.out (by omega) (fun _ => .inr (.inr ⟨t, rfl, HSW.out.2, .inl ⟨.inr rfl, HSW.out.1⟩⟩))
set_option maxHeartbeats 8000000 in
set_option maxRecDepth 100000 in
theorem put_3 (at_ : Int) (N : Nat) (word : ByteArray) (ts : List Nat) (A : Option Addr) (c : Nat) (w : World) (_hw : word.size ≤ 20) (ss : List (List UInt8)) (B : Option Addr) (d : Nat) (hS : K.Lies w B ss.length (fun j => (ss.map sv).getD j undef)) (hsl : ∀ u ∈ ss, u.length ≤ 20) (hsn : ∀ u ∈ ss, u ≠ []) (hn : ss.length ≤ 8) (hN1 : 1 ≤ N) (hN2 : N ≤ 1000) (hL : K.Lies w A (ts.map (fun (t : Nat) => (t : Int) + 1)).length (K.nums .i64 (ts.map (fun (t : Nat) => (t : Int) + 1)))) (hts : ∀ t ∈ ts, t < ss.length) (htl : ts.length ≤ 5) : Calls Tryd.prog 20 #[(⟨3, at_, (N : Int), word, (ts.map (fun (t : Nat) => (t : Int) + 1))⟩ : Pi).v A c, .slice B ss.length d] w (PtPost ⟨3, at_, (N : Int), word, (ts.map (fun (t : Nat) => (t : Int) + 1))⟩ ss w) := by
  unfold Pi.v
  have hbk := K.heap_alloc_at w (.cells #[.int .i64 3, .int .i64 at_, .int .i64 (N : Int), .string word, .slice A (ts.map (fun (t : Nat) => (t : Int) + 1)).length c] 41)
  have hb : Below w.heap.size w (w.alloc (.cells #[.int .i64 3, .int .i64 at_, .int .i64 (N : Int), .string word, .slice A (ts.map (fun (t : Nat) => (t : Int) + 1)).length c] 41)) := (Below.refl _ w).alloc (Nat.le_refl _) _
  obtain ⟨wb, hwb⟩ : ∃ wb, w.alloc (.cells #[.int .i64 3, .int .i64 at_, .int .i64 (N : Int), .string word, .slice A (ts.map (fun (t : Nat) => (t : Int) + 1)).length c] 41) = wb := ⟨_, rfl⟩
  rw [hwb] at hbk hb
  have c0 : wb.cell? ⟨w.heap.size, 0, none⟩ = some (.int .i64 3) := by rw [Lib.cell_of_heap hbk]; rfl
  have c1 : wb.cell? ⟨w.heap.size, 1, none⟩ = some (.int .i64 at_) := by rw [Lib.cell_of_heap hbk]; rfl
  have c2 : wb.cell? ⟨w.heap.size, 2, none⟩ = some (.int .i64 (N : Int)) := by rw [Lib.cell_of_heap hbk]; rfl
  have c3 : wb.cell? ⟨w.heap.size, 3, none⟩ = some (.string word) := by rw [Lib.cell_of_heap hbk]; rfl
  have c4 : wb.cell? ⟨w.heap.size, 4, none⟩ = some (.slice A (ts.map (fun (t : Nat) => (t : Int) + 1)).length c) := by rw [Lib.cell_of_heap hbk]; rfl
  have HB := Lib.hid hb
  clear hbk hb
  have kind3 : Tryd.prog.intKind 3 = .i64 := by kernel_rfl
  have hcv : ∀ w, (convert 3 59 (.int .i64 N)).run Tryd.prog w = .ok (.int .u32 N) w := by
    intro w
    have h1 := run_convert_int (P := Tryd.prog) w 3 59 .i64 N (by rw [Tryd.underlying3]; rfl) (by rw [kind59]; exact under59)
    rw [h1, kind59, IntWalk.u32_in _ (by omega)]
  have hcb : ∀ (x : Nat) w, (convert 59 3 (.int .u32 ((x : Int) % (N : Int)))).run Tryd.prog w = .ok (.int .i64 ((x % N : Nat) : Int)) w := by
    intro x w
    have h1 := run_convert_int (P := Tryd.prog) w 59 3 .u32 ((x : Int) % (N : Int)) (by rw [under59]; rfl) (by rw [kind3]; exact Tryd.underlying3)
    have h2 := Nat.mod_lt x (show N > 0 by omega)
    rw [h1, kind3, IntWalk.i64_in _ (by omega)]
    rfl
  rw [List.length_map] at c4
  have hcz : ∀ (k : Nat) (h : k < ts.length), A = A → ∀ (ab ao : Nat), (∀ j, j < ts.length → wb.cell? ⟨ab, ao + j, none⟩ = some (K.nums .i64 (ts.map (fun (t : Nat) => (t : Int) + 1)) j)) → wb.cell? ⟨ab, ao + k, none⟩ = some (.int .i64 (((ts.getD k 0 : Nat) : Int) + 1)) := fun k h _ ab ao hh => by
    rw [hh k h]
    unfold K.nums
    simp [List.getD, h]
  have hL2 := hL.below HB.out (Nat.le_refl _)
  rw [List.length_map] at hL2
  have HL := Lib.hid (And.intro hL2 (And.intro hcz (And.intro hts (And.intro hsl (And.intro hsn (hS.below HB.out (Nat.le_refl _)))))))
  have HCV := Lib.hid (And.intro hcv hcb)
  clear hL hL2 hcz hts hsl hsn hS hcv hcb kind3
  try rw [List.length_map] at hwb
  go_enter Tryd.func20, Tryd.ntmps20
  go_upto_region 6 with (fail)
  go_loop [6, 23] (fun tv i => ∃ (k : Nat) (u : ByteArray), k ≤ ts.length ∧ i = .int .i64 k ∧ tv = .string u ∧ u.size ≤ 20 * k ∧ Hid (u.data.toList = gat ss (ts.take k))) (fun _ i => ts.length - (intOf i).toNat)
  case atStart => exact ⟨0, ⟨#[]⟩, by omega, rfl, rfl, by decide, Lib.hid rfl⟩
  case round =>
    obtain ⟨k, u, hk, rfl, rfl, hus, HU⟩ := hrel
    by_cases hlt : k < ts.length
    · obtain ⟨ab, ao, rfl, hab, hcs⟩ := HL.out.1 (by omega)
      have cz := HL.out.2.1 k hlt (by trivial) ab ao hcs
      have hx := HL.out.2.2.1 (ts.getD k 0) (by rw [List.getD, List.getElem?_eq_getElem hlt]; exact List.getElem_mem hlt)
      have hgs := gat_succ ss ts hlt
      generalize ts.getD k 0 = x at cz hx hgs
      obtain ⟨bb, bo, rfl, hbb, hbc⟩ := HL.out.2.2.2.2.2 (by omega)
      have cS : wb.cell? ⟨bb, bo + x, none⟩ = some (sv (ss.getD x [])) := by
        refine (hbc x hx).trans ?_
        simp [List.getD, hx]
      have hul := HL.out.2.2.2.1 (ss.getD x []) (by rw [List.getD, List.getElem?_eq_getElem hx]; exact List.getElem_mem hx)
      obtain ⟨sw, hsw⟩ : ∃ sw : ByteArray, sv (ss.getD x []) = .string sw := ⟨_, rfl⟩
      have hswl : sw.data.toList = ss.getD x [] := by unfold sv at hsw; injection hsw with hsw; rw [← hsw]
      rw [hsw] at cS
      have hsz : sw.size ≤ 20 := by rw [← K.bsize, hswl]; exact hul
      have hx2 : (x : Int) < (ss.length : Int) := by omega
      have hx3 : x ≤ 100 := by omega
      have hk5 : k ≤ 5 := by omega
      have HG := Lib.hid (And.intro hgs hswl)
      clear hcs hgs hbc hul hsw hswl
      go_wp2_with fail
      go_round
      case rel => exact ⟨k + 1, u ++ sw, by omega, by go_num, rfl, by rw [ByteArray.size_append]; omega, Lib.hid (by rw [K.bapp, HU.out, HG.out.1, HG.out.2])⟩
      case measure => simp [intOf]; omega
    · obtain rfl : k = ts.length := by omega
      have hu := HU.out
      rw [List.take_length] at hu
      have h26 := fun w => maphash_any u w (by omega)
      obtain ⟨x, hx⟩ : ∃ x : Nat, fnvs 2166136261 u.data.toList = x := ⟨_, rfl⟩
      rw [hx] at h26
      have h25 : ∀ w, Calls Tryd.prog 25 #[.int .i64 ((x : Int) % (N : Int))] w (NonePost (.string ⟨(decs (x % N)).toArray⟩) w) := fun w => by
        rw [← Int.natCast_emod]
        exact decimal_any (x % N) w (by have := Nat.mod_lt x (show N > 0 by omega); omega)
      have hxl : x < 4294967296 := by
        rw [← hx]
        rcases List.eq_nil_or_concat u.data.toList with h | ⟨a, b, h⟩
        · rw [h]; decide
        · rw [h, List.concat_eq_append, fnvs_snoc]; exact fnv1_lt _ _
      have hlen : (decs (x % N)).length ≤ 20 := decs_20 (by have := Nat.mod_lt x (show N > 0 by omega); omega)
      have hcv := HCV.out.1
      have hcb := HCV.out.2 x
      have hN0 : ((N : Int) == 0) = false := by rw [beq_eq_false_iff_ne]; omega
      have HX := Lib.hid (And.intro hx (And.intro hu hlen))
      have H2 := Lib.hid (And.intro h26 h25)
      clear hx hu h26 h25 hlen
      go_upto_region 10 with (fail)
      refine K.wp_region_grew (by kernel_rfl) (by kernel_rfl) ?_
      repeat (first
        | go_big_quiet_skip
        | (go_big_quiet_want; go_big_quiet_op; go_big_quiet_on)
        | (go_big_quiet_want; go_big_quiet_op; refine ⟨_, fun _ _ => rfl, ?_⟩; go_big_quiet_on)
        | (go_big_quiet_want; refine K.quiet_cell (v := ?_) ?_ _ _ rfl rfl ?_ ?_
           rotate_left
           · assumption
           · (intro w hw; go_simp)
           simp only [Act.put, List.setIfInBounds_toArray, List.set_cons_zero, List.set_cons_succ]
           go_big_quiet_on)
        | (go_big_quiet_want; refine K.quiet_load _ _ rfl _ rfl ?_ ?_ ?_
           rotate_left
           · assumption
           simp only [Act.put, List.setIfInBounds_toArray, List.set_cons_zero, List.set_cons_succ]
           go_big_quiet_on)
        | (go_big_quiet_want; go_big_quiet_op; apply Exists.intro
           refine ⟨fun w hw => ?_, ?_⟩
           · first | with_reducible exact quiet_of_vis hw (H2.out.1 _) | with_reducible exact quiet_of_none hw (H2.out.2 _)
           go_big_quiet_on))
      refine wpQuiet_nil ?_
      intro w2 hw2
      have HW2 := Lib.hid hw2
      clear hw2
      go_wp2_with fail
      go_ret2
      refine PtPost.mk (p := ⟨3, at_, (N : Int), word, ts.map (fun (t : Nat) => (t : Int) + 1)⟩) true ⟨(decs (x % N)).toArray⟩ (HB.out.trans (HW2.out.mono HB.out.size)) (Nat.le_trans HX.out.2.2 (by omega)) (fun _ => .inr (.inl ⟨rfl, ts, N, rfl, HL.out.2.2.1, rfl, hN1, hN2, ?_⟩))
      unfold hashed
      rw [← HX.out.2.1, HX.out.1]
set_option maxHeartbeats 8000000 in
set_option maxRecDepth 100000 in
theorem put_4 (t : Nat) (n : Int) (word : ByteArray) (all : List Int) (A : Option Addr) (c : Nat) (w : World) (_hw : word.size ≤ 20) (ss : List (List UInt8)) (B : Option Addr) (d : Nat) (hS : K.Lies w B ss.length (fun j => (ss.map sv).getD j undef)) (hsl : ∀ u ∈ ss, u.length ≤ 20) (hsn : ∀ u ∈ ss, u ≠ []) (hn : ss.length ≤ 8) (ht : t < ss.length) (m : UInt8) (hm : word.data.toList = [m]) : Calls Tryd.prog 20 #[(⟨4, ((t : Int) + 1), n, word, all⟩ : Pi).v A c, .slice B ss.length d] w (PtPost ⟨4, ((t : Int) + 1), n, word, all⟩ ss w) := by
  unfold Pi.v
  have hbk := K.heap_alloc_at w (.cells #[.int .i64 4, .int .i64 ((t : Int) + 1), .int .i64 n, .string word, .slice A all.length c] 41)
  have hb : Below w.heap.size w (w.alloc (.cells #[.int .i64 4, .int .i64 ((t : Int) + 1), .int .i64 n, .string word, .slice A all.length c] 41)) := (Below.refl _ w).alloc (Nat.le_refl _) _
  obtain ⟨wb, hwb⟩ : ∃ wb, w.alloc (.cells #[.int .i64 4, .int .i64 ((t : Int) + 1), .int .i64 n, .string word, .slice A all.length c] 41) = wb := ⟨_, rfl⟩
  rw [hwb] at hbk hb
  have c0 : wb.cell? ⟨w.heap.size, 0, none⟩ = some (.int .i64 4) := by rw [Lib.cell_of_heap hbk]; rfl
  have c1 : wb.cell? ⟨w.heap.size, 1, none⟩ = some (.int .i64 ((t : Int) + 1)) := by rw [Lib.cell_of_heap hbk]; rfl
  have c2 : wb.cell? ⟨w.heap.size, 2, none⟩ = some (.int .i64 n) := by rw [Lib.cell_of_heap hbk]; rfl
  have c3 : wb.cell? ⟨w.heap.size, 3, none⟩ = some (.string word) := by rw [Lib.cell_of_heap hbk]; rfl
  have c4 : wb.cell? ⟨w.heap.size, 4, none⟩ = some (.slice A all.length c) := by rw [Lib.cell_of_heap hbk]; rfl
  have HB := Lib.hid hb
  obtain ⟨bb, bo, rfl, hbb, hbc⟩ := hS (by omega)
  have cS : wb.cell? ⟨bb, bo + t, none⟩ = some (sv (ss.getD t [])) := by
    refine (hb.cell (p := ⟨bb, bo + t, none⟩) hbb).trans ((hbc t ht).trans ?_)
    simp [List.getD, ht]
  have hmem : ss.getD t [] ∈ ss := by rw [List.getD, List.getElem?_eq_getElem ht]; exact List.getElem_mem ht
  have hul := hsl _ hmem
  have hun := hsn _ hmem
  obtain ⟨sw, hsw⟩ : ∃ sw : ByteArray, sv (ss.getD t []) = .string sw := ⟨_, rfl⟩
  have hswl : sw.data.toList = ss.getD t [] := by unfold sv at hsw; injection hsw with hsw; rw [← hsw]
  rw [hsw] at cS
  have hsz : sw.size ≤ 20 := by rw [← K.bsize, hswl]; exact hul
  have hs0 : 0 < sw.size := by rw [← K.bsize, hswl]; exact List.length_pos_iff.2 hun
  have HSW := Lib.hid (And.intro hswl ht)
  have i0 : (t : Int) < (ss.length : Int) := by omega
  clear hbc hmem hul hun hsw hswl hsl hsn
  clear hbk hb
  have h27 := mapSplit_any sw word m wb (by omega) hs0 hm
  have HM := Lib.hid hm
  clear hm
  go_enter Tryd.func20, Tryd.ntmps20
  go_wp2_with fail
  refine h27.mono ?_
  rintro e w2 ⟨b, u, rfl, rfl, hu1, hu2⟩
  rw [K.bsize] at hu1
  have HU := Lib.hid hu2
  clear h27 hu2
  go_wp2_with fail
  go_ret2
  refine PtPost.mk b u HB.out (by omega) (fun hb => .inr (.inr ⟨t, rfl, HSW.out.2, .inr (.inl ⟨rfl, m, HM.out, ?_, ?_⟩)⟩))
  · rw [← HSW.out.1]; exact (HU.out hb).2
  · rw [← HSW.out.1]; exact (HU.out hb).1
set_option maxHeartbeats 8000000 in
set_option maxRecDepth 100000 in
theorem put_5 (t N : Nat) (word : ByteArray) (all : List Int) (A : Option Addr) (c : Nat) (w : World) (_hw : word.size ≤ 20) (ss : List (List UInt8)) (B : Option Addr) (d : Nat) (hS : K.Lies w B ss.length (fun j => (ss.map sv).getD j undef)) (hsl : ∀ u ∈ ss, u.length ≤ 20) (hsn : ∀ u ∈ ss, u ≠ []) (hn : ss.length ≤ 8) (ht : t < ss.length) (hN1 : 1 ≤ N) (hN2 : N ≤ 1000) : Calls Tryd.prog 20 #[(⟨5, ((t : Int) + 1), (N : Int), word, all⟩ : Pi).v A c, .slice B ss.length d] w (PtPost ⟨5, ((t : Int) + 1), (N : Int), word, all⟩ ss w) := by
  unfold Pi.v
  have hbk := K.heap_alloc_at w (.cells #[.int .i64 5, .int .i64 ((t : Int) + 1), .int .i64 (N : Int), .string word, .slice A all.length c] 41)
  have hb : Below w.heap.size w (w.alloc (.cells #[.int .i64 5, .int .i64 ((t : Int) + 1), .int .i64 (N : Int), .string word, .slice A all.length c] 41)) := (Below.refl _ w).alloc (Nat.le_refl _) _
  obtain ⟨wb, hwb⟩ : ∃ wb, w.alloc (.cells #[.int .i64 5, .int .i64 ((t : Int) + 1), .int .i64 (N : Int), .string word, .slice A all.length c] 41) = wb := ⟨_, rfl⟩
  rw [hwb] at hbk hb
  have c0 : wb.cell? ⟨w.heap.size, 0, none⟩ = some (.int .i64 5) := by rw [Lib.cell_of_heap hbk]; rfl
  have c1 : wb.cell? ⟨w.heap.size, 1, none⟩ = some (.int .i64 ((t : Int) + 1)) := by rw [Lib.cell_of_heap hbk]; rfl
  have c2 : wb.cell? ⟨w.heap.size, 2, none⟩ = some (.int .i64 (N : Int)) := by rw [Lib.cell_of_heap hbk]; rfl
  have c3 : wb.cell? ⟨w.heap.size, 3, none⟩ = some (.string word) := by rw [Lib.cell_of_heap hbk]; rfl
  have c4 : wb.cell? ⟨w.heap.size, 4, none⟩ = some (.slice A all.length c) := by rw [Lib.cell_of_heap hbk]; rfl
  have HB := Lib.hid hb
  obtain ⟨bb, bo, rfl, hbb, hbc⟩ := hS (by omega)
  have cS : wb.cell? ⟨bb, bo + t, none⟩ = some (sv (ss.getD t [])) := by
    refine (hb.cell (p := ⟨bb, bo + t, none⟩) hbb).trans ((hbc t ht).trans ?_)
    simp [List.getD, ht]
  have hmem : ss.getD t [] ∈ ss := by rw [List.getD, List.getElem?_eq_getElem ht]; exact List.getElem_mem ht
  have hul := hsl _ hmem
  have hun := hsn _ hmem
  obtain ⟨sw, hsw⟩ : ∃ sw : ByteArray, sv (ss.getD t []) = .string sw := ⟨_, rfl⟩
  have hswl : sw.data.toList = ss.getD t [] := by unfold sv at hsw; injection hsw with hsw; rw [← hsw]
  rw [hsw] at cS
  have hsz : sw.size ≤ 20 := by rw [← K.bsize, hswl]; exact hul
  have hs0 : 0 < sw.size := by rw [← K.bsize, hswl]; exact List.length_pos_iff.2 hun
  have HSW := Lib.hid (And.intro hswl ht)
  have i0 : (t : Int) < (ss.length : Int) := by omega
  clear hbc hmem hul hun hsw hswl hsl hsn
  clear hbk hb
  by_cases hlt : N < sw.size
  · have hmin : min (N : Int) (sw.size : Int) = (N : Int) := by omega
    have hlt2 : (N : Int) < (sw.size : Int) := by omega
    have hk1 : (N : Int) ≤ (sw.size : Int) := by omega
    have hk2 : (0 : Int) ≤ (N : Int) := by omega
    have hk3 : (sw.size : Int) ≤ (sw.size : Int) := by omega
    have hk4 : (0 : Int) ≤ (sw.size : Int) := by omega
    have HLT := Lib.hid hlt
    clear hlt
    go_enter Tryd.func20, Tryd.ntmps20
    go_upto_region 19 with (fail)
    refine K.wp_region_grew (by kernel_rfl) (by kernel_rfl) ?_
    repeat (first
      | go_big_quiet_skip
      | (go_big_quiet_want; go_big_quiet_op; go_big_quiet_on)
      | (go_big_quiet_want; go_big_quiet_op; refine ⟨_, fun _ _ => rfl, ?_⟩; go_big_quiet_on)
      | (go_big_quiet_want; refine K.quiet_cell (v := ?_) ?_ _ _ rfl rfl ?_ ?_
         rotate_left
         · assumption
         · (intro w hw; go_simp)
         simp only [Act.put, List.setIfInBounds_toArray, List.set_cons_zero, List.set_cons_succ]
         go_big_quiet_on)
      | (go_big_quiet_want; refine K.quiet_load _ _ rfl _ rfl ?_ ?_ ?_
         rotate_left
         · assumption
         simp only [Act.put, List.setIfInBounds_toArray, List.set_cons_zero, List.set_cons_succ]
         go_big_quiet_on))
    refine wpQuiet_nil ?_
    intro w2 hw2
    have HW2 := Lib.hid hw2
    clear hw2
    go_wp2_with fail
    go_ret2
    refine PtPost.mk (p := ⟨5, (t : Int) + 1, (N : Int), word, all⟩) true (sw.extract 0 N ++ ⟨#[46]⟩ ++ sw.extract N sw.size) (HB.out.trans (HW2.out.mono HB.out.size)) (by (try simp only [ByteArray.size_append, ByteArray.size_extract, s46]); omega) (fun _ => .inr (.inr ⟨t, rfl, HSW.out.2, .inr (.inr ⟨N, rfl, hN1, hN2, by rw [← HSW.out.1, K.bsize]; exact HLT.out, .inl ⟨rfl, ?_⟩⟩)⟩))
    rw [← HSW.out.1]
    simp; exact List.take_of_length_le (by rw [List.length_drop, K.bsize]; omega)
  · have hmin : min (N : Int) (sw.size : Int) = (sw.size : Int) := by omega
    have hlt2 : ¬ (N : Int) < (sw.size : Int) := by omega
    have hk3 : (sw.size : Int) ≤ (sw.size : Int) := by omega
    have hk4 : (0 : Int) ≤ (sw.size : Int) := by omega
    have HLT := Lib.hid hlt
    clear hlt
    go_enter Tryd.func20, Tryd.ntmps20
    go_upto_region 19 with (fail)
    refine K.wp_region_grew (by kernel_rfl) (by kernel_rfl) ?_
    repeat (first
      | go_big_quiet_skip
      | (go_big_quiet_want; go_big_quiet_op; go_big_quiet_on)
      | (go_big_quiet_want; go_big_quiet_op; refine ⟨_, fun _ _ => rfl, ?_⟩; go_big_quiet_on)
      | (go_big_quiet_want; refine K.quiet_cell (v := ?_) ?_ _ _ rfl rfl ?_ ?_
         rotate_left
         · assumption
         · (intro w hw; go_simp)
         simp only [Act.put, List.setIfInBounds_toArray, List.set_cons_zero, List.set_cons_succ]
         go_big_quiet_on)
      | (go_big_quiet_want; refine K.quiet_load _ _ rfl _ rfl ?_ ?_ ?_
         rotate_left
         · assumption
         simp only [Act.put, List.setIfInBounds_toArray, List.set_cons_zero, List.set_cons_succ]
         go_big_quiet_on))
    refine wpQuiet_nil ?_
    intro w2 hw2
    have HW2 := Lib.hid hw2
    clear hw2
    go_wp2_with fail
    go_ret2
    exact PtPost.mk false _ (HB.out.trans (HW2.out.mono HB.out.size)) (by (try simp only [ByteArray.size_append, s46]); omega) (fun h => by cases h)
set_option maxHeartbeats 8000000 in
set_option maxRecDepth 100000 in
theorem put_6 (t N : Nat) (word : ByteArray) (all : List Int) (A : Option Addr) (c : Nat) (w : World) (_hw : word.size ≤ 20) (ss : List (List UInt8)) (B : Option Addr) (d : Nat) (hS : K.Lies w B ss.length (fun j => (ss.map sv).getD j undef)) (hsl : ∀ u ∈ ss, u.length ≤ 20) (hsn : ∀ u ∈ ss, u ≠ []) (hn : ss.length ≤ 8) (ht : t < ss.length) (hN1 : 1 ≤ N) (hN2 : N ≤ 1000) : Calls Tryd.prog 20 #[(⟨6, ((t : Int) + 1), (N : Int), word, all⟩ : Pi).v A c, .slice B ss.length d] w (PtPost ⟨6, ((t : Int) + 1), (N : Int), word, all⟩ ss w) := by
  unfold Pi.v
  have hbk := K.heap_alloc_at w (.cells #[.int .i64 6, .int .i64 ((t : Int) + 1), .int .i64 (N : Int), .string word, .slice A all.length c] 41)
  have hb : Below w.heap.size w (w.alloc (.cells #[.int .i64 6, .int .i64 ((t : Int) + 1), .int .i64 (N : Int), .string word, .slice A all.length c] 41)) := (Below.refl _ w).alloc (Nat.le_refl _) _
  obtain ⟨wb, hwb⟩ : ∃ wb, w.alloc (.cells #[.int .i64 6, .int .i64 ((t : Int) + 1), .int .i64 (N : Int), .string word, .slice A all.length c] 41) = wb := ⟨_, rfl⟩
  rw [hwb] at hbk hb
  have c0 : wb.cell? ⟨w.heap.size, 0, none⟩ = some (.int .i64 6) := by rw [Lib.cell_of_heap hbk]; rfl
  have c1 : wb.cell? ⟨w.heap.size, 1, none⟩ = some (.int .i64 ((t : Int) + 1)) := by rw [Lib.cell_of_heap hbk]; rfl
  have c2 : wb.cell? ⟨w.heap.size, 2, none⟩ = some (.int .i64 (N : Int)) := by rw [Lib.cell_of_heap hbk]; rfl
  have c3 : wb.cell? ⟨w.heap.size, 3, none⟩ = some (.string word) := by rw [Lib.cell_of_heap hbk]; rfl
  have c4 : wb.cell? ⟨w.heap.size, 4, none⟩ = some (.slice A all.length c) := by rw [Lib.cell_of_heap hbk]; rfl
  have HB := Lib.hid hb
  obtain ⟨bb, bo, rfl, hbb, hbc⟩ := hS (by omega)
  have cS : wb.cell? ⟨bb, bo + t, none⟩ = some (sv (ss.getD t [])) := by
    refine (hb.cell (p := ⟨bb, bo + t, none⟩) hbb).trans ((hbc t ht).trans ?_)
    simp [List.getD, ht]
  have hmem : ss.getD t [] ∈ ss := by rw [List.getD, List.getElem?_eq_getElem ht]; exact List.getElem_mem ht
  have hul := hsl _ hmem
  have hun := hsn _ hmem
  obtain ⟨sw, hsw⟩ : ∃ sw : ByteArray, sv (ss.getD t []) = .string sw := ⟨_, rfl⟩
  have hswl : sw.data.toList = ss.getD t [] := by unfold sv at hsw; injection hsw with hsw; rw [← hsw]
  rw [hsw] at cS
  have hsz : sw.size ≤ 20 := by rw [← K.bsize, hswl]; exact hul
  have hs0 : 0 < sw.size := by rw [← K.bsize, hswl]; exact List.length_pos_iff.2 hun
  have HSW := Lib.hid (And.intro hswl ht)
  have i0 : (t : Int) < (ss.length : Int) := by omega
  clear hbc hmem hul hun hsw hswl hsl hsn
  clear hbk hb
  by_cases hlt : N < sw.size
  · obtain ⟨M, hM⟩ : ∃ M : Nat, sw.size = M + N := ⟨sw.size - N, by omega⟩
    have hmin : max 0 ((sw.size : Int) - (N : Int)) = (M : Int) := by omega
    have hM2 : M ≤ sw.size := by omega
    have HM := Lib.hid hM
    clear hM
    have hlt2 : (N : Int) < (sw.size : Int) := by omega
    have hk1 : (M : Int) ≤ (sw.size : Int) := by omega
    have hk2 : (0 : Int) ≤ (M : Int) := by omega
    have hk3 : (sw.size : Int) ≤ (sw.size : Int) := by omega
    have hk4 : (0 : Int) ≤ (sw.size : Int) := by omega
    have HLT := Lib.hid hlt
    clear hlt
    go_enter Tryd.func20, Tryd.ntmps20
    go_upto_region 21 with (fail)
    refine K.wp_region_grew (by kernel_rfl) (by kernel_rfl) ?_
    repeat (first
      | go_big_quiet_skip
      | (go_big_quiet_want; go_big_quiet_op; go_big_quiet_on)
      | (go_big_quiet_want; go_big_quiet_op; refine ⟨_, fun _ _ => rfl, ?_⟩; go_big_quiet_on)
      | (go_big_quiet_want; refine K.quiet_cell (v := ?_) ?_ _ _ rfl rfl ?_ ?_
         rotate_left
         · assumption
         · (intro w hw; go_simp)
         simp only [Act.put, List.setIfInBounds_toArray, List.set_cons_zero, List.set_cons_succ]
         go_big_quiet_on)
      | (go_big_quiet_want; refine K.quiet_load _ _ rfl _ rfl ?_ ?_ ?_
         rotate_left
         · assumption
         simp only [Act.put, List.setIfInBounds_toArray, List.set_cons_zero, List.set_cons_succ]
         go_big_quiet_on))
    refine wpQuiet_nil ?_
    intro w2 hw2
    have HW2 := Lib.hid hw2
    clear hw2
    go_wp2_with fail
    go_ret2
    refine PtPost.mk (p := ⟨6, (t : Int) + 1, (N : Int), word, all⟩) true (sw.extract 0 M ++ ⟨#[46]⟩ ++ sw.extract M sw.size) (HB.out.trans (HW2.out.mono HB.out.size)) (by (try simp only [ByteArray.size_append, ByteArray.size_extract, s46]); omega) (fun _ => .inr (.inr ⟨t, rfl, HSW.out.2, .inr (.inr ⟨N, rfl, hN1, hN2, by rw [← HSW.out.1, K.bsize]; exact HLT.out, .inr (.inl ⟨rfl, ?_⟩)⟩)⟩))
    rw [← HSW.out.1]
    rw [K.bsize, show sw.size - N = M from by have := HM.out; omega]; simp; exact List.take_of_length_le (by rw [List.length_drop, K.bsize]; omega)
  · have hmin : max 0 ((sw.size : Int) - (N : Int)) = 0 := by omega
    have hlt2 : ¬ (N : Int) < (sw.size : Int) := by omega
    have hk3 : (sw.size : Int) ≤ (sw.size : Int) := by omega
    have hk4 : (0 : Int) ≤ (sw.size : Int) := by omega
    have HLT := Lib.hid hlt
    clear hlt
    go_enter Tryd.func20, Tryd.ntmps20
    go_upto_region 21 with (fail)
    refine K.wp_region_grew (by kernel_rfl) (by kernel_rfl) ?_
    repeat (first
      | go_big_quiet_skip
      | (go_big_quiet_want; go_big_quiet_op; go_big_quiet_on)
      | (go_big_quiet_want; go_big_quiet_op; refine ⟨_, fun _ _ => rfl, ?_⟩; go_big_quiet_on)
      | (go_big_quiet_want; refine K.quiet_cell (v := ?_) ?_ _ _ rfl rfl ?_ ?_
         rotate_left
         · assumption
         · (intro w hw; go_simp)
         simp only [Act.put, List.setIfInBounds_toArray, List.set_cons_zero, List.set_cons_succ]
         go_big_quiet_on)
      | (go_big_quiet_want; refine K.quiet_load _ _ rfl _ rfl ?_ ?_ ?_
         rotate_left
         · assumption
         simp only [Act.put, List.setIfInBounds_toArray, List.set_cons_zero, List.set_cons_succ]
         go_big_quiet_on))
    refine wpQuiet_nil ?_
    intro w2 hw2
    have HW2 := Lib.hid hw2
    clear hw2
    go_wp2_with fail
    go_ret2
    exact PtPost.mk false _ (HB.out.trans (HW2.out.mono HB.out.size)) (by (try simp only [ByteArray.size_append, s46]); omega) (fun h => by cases h)
set_option maxHeartbeats 8000000 in
set_option maxRecDepth 100000 in
theorem put_7 (t N : Nat) (word : ByteArray) (all : List Int) (A : Option Addr) (c : Nat) (w : World) (_hw : word.size ≤ 20) (ss : List (List UInt8)) (B : Option Addr) (d : Nat) (hS : K.Lies w B ss.length (fun j => (ss.map sv).getD j undef)) (hsl : ∀ u ∈ ss, u.length ≤ 20) (hsn : ∀ u ∈ ss, u ≠ []) (hn : ss.length ≤ 8) (ht : t < ss.length) (hN1 : 1 ≤ N) (hN2 : N ≤ 1000) : Calls Tryd.prog 20 #[(⟨7, ((t : Int) + 1), (N : Int), word, all⟩ : Pi).v A c, .slice B ss.length d] w (PtPost ⟨7, ((t : Int) + 1), (N : Int), word, all⟩ ss w) := by
  unfold Pi.v
  have hbk := K.heap_alloc_at w (.cells #[.int .i64 7, .int .i64 ((t : Int) + 1), .int .i64 (N : Int), .string word, .slice A all.length c] 41)
  have hb : Below w.heap.size w (w.alloc (.cells #[.int .i64 7, .int .i64 ((t : Int) + 1), .int .i64 (N : Int), .string word, .slice A all.length c] 41)) := (Below.refl _ w).alloc (Nat.le_refl _) _
  obtain ⟨wb, hwb⟩ : ∃ wb, w.alloc (.cells #[.int .i64 7, .int .i64 ((t : Int) + 1), .int .i64 (N : Int), .string word, .slice A all.length c] 41) = wb := ⟨_, rfl⟩
  rw [hwb] at hbk hb
  have c0 : wb.cell? ⟨w.heap.size, 0, none⟩ = some (.int .i64 7) := by rw [Lib.cell_of_heap hbk]; rfl
  have c1 : wb.cell? ⟨w.heap.size, 1, none⟩ = some (.int .i64 ((t : Int) + 1)) := by rw [Lib.cell_of_heap hbk]; rfl
  have c2 : wb.cell? ⟨w.heap.size, 2, none⟩ = some (.int .i64 (N : Int)) := by rw [Lib.cell_of_heap hbk]; rfl
  have c3 : wb.cell? ⟨w.heap.size, 3, none⟩ = some (.string word) := by rw [Lib.cell_of_heap hbk]; rfl
  have c4 : wb.cell? ⟨w.heap.size, 4, none⟩ = some (.slice A all.length c) := by rw [Lib.cell_of_heap hbk]; rfl
  have HB := Lib.hid hb
  obtain ⟨bb, bo, rfl, hbb, hbc⟩ := hS (by omega)
  have cS : wb.cell? ⟨bb, bo + t, none⟩ = some (sv (ss.getD t [])) := by
    refine (hb.cell (p := ⟨bb, bo + t, none⟩) hbb).trans ((hbc t ht).trans ?_)
    simp [List.getD, ht]
  have hmem : ss.getD t [] ∈ ss := by rw [List.getD, List.getElem?_eq_getElem ht]; exact List.getElem_mem ht
  have hul := hsl _ hmem
  have hun := hsn _ hmem
  obtain ⟨sw, hsw⟩ : ∃ sw : ByteArray, sv (ss.getD t []) = .string sw := ⟨_, rfl⟩
  have hswl : sw.data.toList = ss.getD t [] := by unfold sv at hsw; injection hsw with hsw; rw [← hsw]
  rw [hsw] at cS
  have hsz : sw.size ≤ 20 := by rw [← K.bsize, hswl]; exact hul
  have hs0 : 0 < sw.size := by rw [← K.bsize, hswl]; exact List.length_pos_iff.2 hun
  have HSW := Lib.hid (And.intro hswl ht)
  have i0 : (t : Int) < (ss.length : Int) := by omega
  clear hbc hmem hul hun hsw hswl hsl hsn
  clear hbk hb
  go_enter Tryd.func20, Tryd.ntmps20
  go_upto_region 24 with (fail)
  go_loop [4, 10] (fun tv i => ∃ (q : Nat) (u : ByteArray), q ≤ sw.size ∧ i = .int .i64 q ∧ tv = .string u ∧ u.size ≤ 2 * q ∧ Hid (u.data.toList = dots (cL N) sw.data.toList q)) (fun _ i => sw.size - (intOf i).toNat)
  case atStart => exact ⟨0, ⟨#[]⟩, by omega, rfl, rfl, by decide, Lib.hid rfl⟩
  case round =>
    obtain ⟨q, u, hq, rfl, rfl, hus, HU⟩ := hrel
    by_cases hlt : q < sw.size
    · have hone := one_extract hlt
      have hdr : (sw.data.toList.drop q).take 1 = [sw[q]] := by rw [K.drop_at sw q hlt]; rfl
      have HO := Lib.hid (And.intro hone hdr)
      have hsx : (sw.extract q (q + 1)).size = 1 := by rw [ByteArray.size_extract]; omega
      have s1 : (q : Int) ≤ (q : Int) + 1 := by omega
      have s2 : (q : Int) + 1 ≤ (sw.size : Int) := by omega
      have s3 : ((q : Int) + 1).toNat = q + 1 := by omega
      have HSX := Lib.hid (And.intro hsx s46)
      clear hone hdr hsx
      by_cases hq0 : q = 0
      · subst hq0
        rw [show ((0 : Nat) : Int) + 1 = 1 from rfl] at s1 s2 s3
        go_wp2_with fail
        go_round
        case rel =>
          refine ⟨1, u ++ sw.extract 0 1, by omega, rfl, rfl, by rw [ByteArray.size_append, HSX.out.1]; omega, Lib.hid ?_⟩
          have hc0 : (cL N) 0 = false := by simp [cL]
          have e1 : dots (cL N) sw.data.toList (0 + 1) = dots (cL N) sw.data.toList 0 ++ (if (cL N) 0 = true then [46] else []) ++ (sw.data.toList.drop 0).take 1 := rfl
          rw [K.bapp, HU.out, HO.out.1]
          refine Eq.trans ?_ e1.symm
          rw [hc0, HO.out.2]
          simp
        case measure => simp [intOf]; omega
      · have b0 : (0 : Int) < (q : Int) := by omega
        have hN0 : (N : Int) ≠ 0 := by omega
        have hN00 : ((N : Int) == 0) = false := by rw [beq_eq_false_iff_ne]; exact hN0
        by_cases hmod : q % N = 0
        · have e0 : (q : Int) % (N : Int) = 0 := by
            have h9 : ((q % N : Nat) : Int) = 0 := by rw [hmod]; rfl
            rw [Int.natCast_emod] at h9
            rw [← h9]
          have HM := Lib.hid hmod
          clear hmod
          go_wp2_with fail
          go_round
          case rel =>
            refine ⟨q + 1, u ++ ⟨#[46]⟩ ++ sw.extract q (q + 1), by omega, by go_num, rfl, by rw [ByteArray.size_append, ByteArray.size_append, HSX.out.1, HSX.out.2]; omega, Lib.hid ?_⟩
            have hc : (cL N) q = true := by unfold cL; simp [HM.out]; omega
            rw [dots, hc, HO.out.2, ← HU.out]
            rw [K.bapp, K.bapp, HO.out.1]; rfl
          case measure => simp [intOf]; omega
        · have e0 : (((q : Int) % (N : Int)) == 0) = false := by
            rw [beq_eq_false_iff_ne]
            intro e
            apply hmod
            have h9 : ((q % N : Nat) : Int) = 0 := by
              rw [Int.natCast_emod, ← e]
            omega
          have HM := Lib.hid hmod
          clear hmod
          go_wp2_with fail
          go_round
          case rel =>
            refine ⟨q + 1, u ++ sw.extract q (q + 1), by omega, by go_num, rfl, by rw [ByteArray.size_append, HSX.out.1]; omega, Lib.hid ?_⟩
            have hc : (cL N) q = false := by unfold cL; simp [HM.out]
            rw [dots, hc, HO.out.2, ← HU.out]
            rw [K.bapp, HO.out.1]; simp
          case measure => simp [intOf]; omega
    · obtain rfl : q = sw.size := by omega
      by_cases hlt2 : N < sw.size
      · have e0 : (N : Int) < (sw.size : Int) := by omega
        have HLT := Lib.hid hlt2
        clear hlt2
        go_upto_region 29 with (fail)
        refine K.wp_region_grew (by kernel_rfl) (by kernel_rfl) ?_
        repeat (first
          | go_big_quiet_skip
          | (go_big_quiet_want; go_big_quiet_op; go_big_quiet_on)
          | (go_big_quiet_want; go_big_quiet_op; refine ⟨_, fun _ _ => rfl, ?_⟩; go_big_quiet_on)
          | (go_big_quiet_want; refine K.quiet_cell (v := ?_) ?_ _ _ rfl rfl ?_ ?_
             rotate_left
             · assumption
             · (intro w hw; go_simp)
             simp only [Act.put, List.setIfInBounds_toArray, List.set_cons_zero, List.set_cons_succ]
             go_big_quiet_on)
          | (go_big_quiet_want; refine K.quiet_load _ _ rfl _ rfl ?_ ?_ ?_
             rotate_left
             · assumption
             simp only [Act.put, List.setIfInBounds_toArray, List.set_cons_zero, List.set_cons_succ]
             go_big_quiet_on))
        refine wpQuiet_nil ?_
        intro w2 hw2
        have HW2 := Lib.hid hw2
        clear hw2
        go_wp2_with fail
        go_ret2
        refine PtPost.mk true u (HB.out.trans (HW2.out.mono HB.out.size)) (by omega) (fun _ => .inr (.inr ⟨t, rfl, HSW.out.2, .inr (.inr ⟨N, rfl, hN1, hN2, by rw [← HSW.out.1, K.bsize]; exact HLT.out, .inr (.inr (.inl ⟨rfl, ?_⟩))⟩)⟩))
        rw [← HSW.out.1, K.bsize, HU.out]
      · have e0 : ¬ (N : Int) < (sw.size : Int) := by omega
        have HLT := Lib.hid hlt2
        clear hlt2
        go_upto_region 29 with (fail)
        refine K.wp_region_grew (by kernel_rfl) (by kernel_rfl) ?_
        repeat (first
          | go_big_quiet_skip
          | (go_big_quiet_want; go_big_quiet_op; go_big_quiet_on)
          | (go_big_quiet_want; go_big_quiet_op; refine ⟨_, fun _ _ => rfl, ?_⟩; go_big_quiet_on)
          | (go_big_quiet_want; refine K.quiet_cell (v := ?_) ?_ _ _ rfl rfl ?_ ?_
             rotate_left
             · assumption
             · (intro w hw; go_simp)
             simp only [Act.put, List.setIfInBounds_toArray, List.set_cons_zero, List.set_cons_succ]
             go_big_quiet_on)
          | (go_big_quiet_want; refine K.quiet_load _ _ rfl _ rfl ?_ ?_ ?_
             rotate_left
             · assumption
             simp only [Act.put, List.setIfInBounds_toArray, List.set_cons_zero, List.set_cons_succ]
             go_big_quiet_on))
        refine wpQuiet_nil ?_
        intro w2 hw2
        have HW2 := Lib.hid hw2
        clear hw2
        go_wp2_with fail
        go_ret2
        exact PtPost.mk false u (HB.out.trans (HW2.out.mono HB.out.size)) (by omega) (fun h => by cases h)
set_option maxHeartbeats 8000000 in
set_option maxRecDepth 100000 in
theorem put_8 (t N : Nat) (word : ByteArray) (all : List Int) (A : Option Addr) (c : Nat) (w : World) (_hw : word.size ≤ 20) (ss : List (List UInt8)) (B : Option Addr) (d : Nat) (hS : K.Lies w B ss.length (fun j => (ss.map sv).getD j undef)) (hsl : ∀ u ∈ ss, u.length ≤ 20) (hsn : ∀ u ∈ ss, u ≠ []) (hn : ss.length ≤ 8) (ht : t < ss.length) (hN1 : 1 ≤ N) (hN2 : N ≤ 1000) : Calls Tryd.prog 20 #[(⟨8, ((t : Int) + 1), (N : Int), word, all⟩ : Pi).v A c, .slice B ss.length d] w (PtPost ⟨8, ((t : Int) + 1), (N : Int), word, all⟩ ss w) := by
  unfold Pi.v
  have hbk := K.heap_alloc_at w (.cells #[.int .i64 8, .int .i64 ((t : Int) + 1), .int .i64 (N : Int), .string word, .slice A all.length c] 41)
  have hb : Below w.heap.size w (w.alloc (.cells #[.int .i64 8, .int .i64 ((t : Int) + 1), .int .i64 (N : Int), .string word, .slice A all.length c] 41)) := (Below.refl _ w).alloc (Nat.le_refl _) _
  obtain ⟨wb, hwb⟩ : ∃ wb, w.alloc (.cells #[.int .i64 8, .int .i64 ((t : Int) + 1), .int .i64 (N : Int), .string word, .slice A all.length c] 41) = wb := ⟨_, rfl⟩
  rw [hwb] at hbk hb
  have c0 : wb.cell? ⟨w.heap.size, 0, none⟩ = some (.int .i64 8) := by rw [Lib.cell_of_heap hbk]; rfl
  have c1 : wb.cell? ⟨w.heap.size, 1, none⟩ = some (.int .i64 ((t : Int) + 1)) := by rw [Lib.cell_of_heap hbk]; rfl
  have c2 : wb.cell? ⟨w.heap.size, 2, none⟩ = some (.int .i64 (N : Int)) := by rw [Lib.cell_of_heap hbk]; rfl
  have c3 : wb.cell? ⟨w.heap.size, 3, none⟩ = some (.string word) := by rw [Lib.cell_of_heap hbk]; rfl
  have c4 : wb.cell? ⟨w.heap.size, 4, none⟩ = some (.slice A all.length c) := by rw [Lib.cell_of_heap hbk]; rfl
  have HB := Lib.hid hb
  obtain ⟨bb, bo, rfl, hbb, hbc⟩ := hS (by omega)
  have cS : wb.cell? ⟨bb, bo + t, none⟩ = some (sv (ss.getD t [])) := by
    refine (hb.cell (p := ⟨bb, bo + t, none⟩) hbb).trans ((hbc t ht).trans ?_)
    simp [List.getD, ht]
  have hmem : ss.getD t [] ∈ ss := by rw [List.getD, List.getElem?_eq_getElem ht]; exact List.getElem_mem ht
  have hul := hsl _ hmem
  have hun := hsn _ hmem
  obtain ⟨sw, hsw⟩ : ∃ sw : ByteArray, sv (ss.getD t []) = .string sw := ⟨_, rfl⟩
  have hswl : sw.data.toList = ss.getD t [] := by unfold sv at hsw; injection hsw with hsw; rw [← hsw]
  rw [hsw] at cS
  have hsz : sw.size ≤ 20 := by rw [← K.bsize, hswl]; exact hul
  have hs0 : 0 < sw.size := by rw [← K.bsize, hswl]; exact List.length_pos_iff.2 hun
  have HSW := Lib.hid (And.intro hswl ht)
  have i0 : (t : Int) < (ss.length : Int) := by omega
  clear hbc hmem hul hun hsw hswl hsl hsn
  clear hbk hb
  go_enter Tryd.func20, Tryd.ntmps20
  go_upto_region 32 with (fail)
  go_loop [4, 11] (fun tv i => ∃ (q : Nat) (u : ByteArray), q ≤ sw.size ∧ i = .int .i64 q ∧ tv = .string u ∧ u.size ≤ 2 * q ∧ Hid (u.data.toList = dots (cR N sw.size) sw.data.toList q)) (fun _ i => sw.size - (intOf i).toNat)
  case atStart => exact ⟨0, ⟨#[]⟩, by omega, rfl, rfl, by decide, Lib.hid rfl⟩
  case round =>
    obtain ⟨q, u, hq, rfl, rfl, hus, HU⟩ := hrel
    by_cases hlt : q < sw.size
    · have hone := one_extract hlt
      have hdr : (sw.data.toList.drop q).take 1 = [sw[q]] := by rw [K.drop_at sw q hlt]; rfl
      have HO := Lib.hid (And.intro hone hdr)
      have hsx : (sw.extract q (q + 1)).size = 1 := by rw [ByteArray.size_extract]; omega
      have s1 : (q : Int) ≤ (q : Int) + 1 := by omega
      have s2 : (q : Int) + 1 ≤ (sw.size : Int) := by omega
      have s3 : ((q : Int) + 1).toNat = q + 1 := by omega
      have HSX := Lib.hid (And.intro hsx s46)
      clear hone hdr hsx
      by_cases hq0 : q = 0
      · subst hq0
        rw [show ((0 : Nat) : Int) + 1 = 1 from rfl] at s1 s2 s3
        go_wp2_with fail
        go_round
        case rel =>
          refine ⟨1, u ++ sw.extract 0 1, by omega, rfl, rfl, by rw [ByteArray.size_append, HSX.out.1]; omega, Lib.hid ?_⟩
          have hc0 : (cR N sw.size) 0 = false := by simp [cR]
          have e1 : dots (cR N sw.size) sw.data.toList (0 + 1) = dots (cR N sw.size) sw.data.toList 0 ++ (if (cR N sw.size) 0 = true then [46] else []) ++ (sw.data.toList.drop 0).take 1 := rfl
          rw [K.bapp, HU.out, HO.out.1]
          refine Eq.trans ?_ e1.symm
          rw [hc0, HO.out.2]
          simp
        case measure => simp [intOf]; omega
      · have b0 : (0 : Int) < (q : Int) := by omega
        have hN0 : (N : Int) ≠ 0 := by omega
        have hN00 : ((N : Int) == 0) = false := by rw [beq_eq_false_iff_ne]; exact hN0
        by_cases hmod : (sw.size - q) % N = 0
        · have e0 : ((sw.size : Int) - (q : Int)) % (N : Int) = 0 := by
            have h9 : (((sw.size - q) % N : Nat) : Int) = 0 := by rw [hmod]; rfl
            rw [Int.natCast_emod] at h9
            rw [← h9]
            congr 1; omega
          have HM := Lib.hid hmod
          clear hmod
          go_wp2_with fail
          go_round
          case rel =>
            refine ⟨q + 1, u ++ ⟨#[46]⟩ ++ sw.extract q (q + 1), by omega, by go_num, rfl, by rw [ByteArray.size_append, ByteArray.size_append, HSX.out.1, HSX.out.2]; omega, Lib.hid ?_⟩
            have hc : (cR N sw.size) q = true := by unfold cR; simp [HM.out]; omega
            rw [dots, hc, HO.out.2, ← HU.out]
            rw [K.bapp, K.bapp, HO.out.1]; rfl
          case measure => simp [intOf]; omega
        · have e0 : ((((sw.size : Int) - (q : Int)) % (N : Int)) == 0) = false := by
            rw [beq_eq_false_iff_ne]
            intro e
            apply hmod
            have h9 : (((sw.size - q) % N : Nat) : Int) = 0 := by
              rw [Int.natCast_emod, ← e]
              congr 1; omega
            omega
          have HM := Lib.hid hmod
          clear hmod
          go_wp2_with fail
          go_round
          case rel =>
            refine ⟨q + 1, u ++ sw.extract q (q + 1), by omega, by go_num, rfl, by rw [ByteArray.size_append, HSX.out.1]; omega, Lib.hid ?_⟩
            have hc : (cR N sw.size) q = false := by unfold cR; simp [HM.out]
            rw [dots, hc, HO.out.2, ← HU.out]
            rw [K.bapp, HO.out.1]; simp
          case measure => simp [intOf]; omega
    · obtain rfl : q = sw.size := by omega
      by_cases hlt2 : N < sw.size
      · have e0 : (N : Int) < (sw.size : Int) := by omega
        have HLT := Lib.hid hlt2
        clear hlt2
        go_upto_region 37 with (fail)
        refine K.wp_region_grew (by kernel_rfl) (by kernel_rfl) ?_
        repeat (first
          | go_big_quiet_skip
          | (go_big_quiet_want; go_big_quiet_op; go_big_quiet_on)
          | (go_big_quiet_want; go_big_quiet_op; refine ⟨_, fun _ _ => rfl, ?_⟩; go_big_quiet_on)
          | (go_big_quiet_want; refine K.quiet_cell (v := ?_) ?_ _ _ rfl rfl ?_ ?_
             rotate_left
             · assumption
             · (intro w hw; go_simp)
             simp only [Act.put, List.setIfInBounds_toArray, List.set_cons_zero, List.set_cons_succ]
             go_big_quiet_on)
          | (go_big_quiet_want; refine K.quiet_load _ _ rfl _ rfl ?_ ?_ ?_
             rotate_left
             · assumption
             simp only [Act.put, List.setIfInBounds_toArray, List.set_cons_zero, List.set_cons_succ]
             go_big_quiet_on))
        refine wpQuiet_nil ?_
        intro w2 hw2
        have HW2 := Lib.hid hw2
        clear hw2
        go_wp2_with fail
        go_ret2
        refine PtPost.mk true u (HB.out.trans (HW2.out.mono HB.out.size)) (by omega) (fun _ => .inr (.inr ⟨t, rfl, HSW.out.2, .inr (.inr ⟨N, rfl, hN1, hN2, by rw [← HSW.out.1, K.bsize]; exact HLT.out, .inr (.inr (.inr (.inl ⟨rfl, ?_⟩)))⟩)⟩))
        rw [← HSW.out.1, K.bsize, HU.out]
      · have e0 : ¬ (N : Int) < (sw.size : Int) := by omega
        have HLT := Lib.hid hlt2
        clear hlt2
        go_upto_region 37 with (fail)
        refine K.wp_region_grew (by kernel_rfl) (by kernel_rfl) ?_
        repeat (first
          | go_big_quiet_skip
          | (go_big_quiet_want; go_big_quiet_op; go_big_quiet_on)
          | (go_big_quiet_want; go_big_quiet_op; refine ⟨_, fun _ _ => rfl, ?_⟩; go_big_quiet_on)
          | (go_big_quiet_want; refine K.quiet_cell (v := ?_) ?_ _ _ rfl rfl ?_ ?_
             rotate_left
             · assumption
             · (intro w hw; go_simp)
             simp only [Act.put, List.setIfInBounds_toArray, List.set_cons_zero, List.set_cons_succ]
             go_big_quiet_on)
          | (go_big_quiet_want; refine K.quiet_load _ _ rfl _ rfl ?_ ?_ ?_
             rotate_left
             · assumption
             simp only [Act.put, List.setIfInBounds_toArray, List.set_cons_zero, List.set_cons_succ]
             go_big_quiet_on))
        refine wpQuiet_nil ?_
        intro w2 hw2
        have HW2 := Lib.hid hw2
        clear hw2
        go_wp2_with fail
        go_ret2
        exact PtPost.mk false u (HB.out.trans (HW2.out.mono HB.out.size)) (by omega) (fun h => by cases h)
set_option maxHeartbeats 8000000 in
set_option maxRecDepth 100000 in
theorem put_9 (t N : Nat) (word : ByteArray) (all : List Int) (A : Option Addr) (c : Nat) (w : World) (_hw : word.size ≤ 20) (ss : List (List UInt8)) (B : Option Addr) (d : Nat) (hS : K.Lies w B ss.length (fun j => (ss.map sv).getD j undef)) (hsl : ∀ u ∈ ss, u.length ≤ 20) (hsn : ∀ u ∈ ss, u ≠ []) (hn : ss.length ≤ 8) (ht : t < ss.length) (hN1 : 1 ≤ N) (hN2 : N ≤ 1000) : Calls Tryd.prog 20 #[(⟨9, ((t : Int) + 1), (N : Int), word, all⟩ : Pi).v A c, .slice B ss.length d] w (PtPost ⟨9, ((t : Int) + 1), (N : Int), word, all⟩ ss w) := by
  unfold Pi.v
  have hbk := K.heap_alloc_at w (.cells #[.int .i64 9, .int .i64 ((t : Int) + 1), .int .i64 (N : Int), .string word, .slice A all.length c] 41)
  have hb : Below w.heap.size w (w.alloc (.cells #[.int .i64 9, .int .i64 ((t : Int) + 1), .int .i64 (N : Int), .string word, .slice A all.length c] 41)) := (Below.refl _ w).alloc (Nat.le_refl _) _
  obtain ⟨wb, hwb⟩ : ∃ wb, w.alloc (.cells #[.int .i64 9, .int .i64 ((t : Int) + 1), .int .i64 (N : Int), .string word, .slice A all.length c] 41) = wb := ⟨_, rfl⟩
  rw [hwb] at hbk hb
  have c0 : wb.cell? ⟨w.heap.size, 0, none⟩ = some (.int .i64 9) := by rw [Lib.cell_of_heap hbk]; rfl
  have c1 : wb.cell? ⟨w.heap.size, 1, none⟩ = some (.int .i64 ((t : Int) + 1)) := by rw [Lib.cell_of_heap hbk]; rfl
  have c2 : wb.cell? ⟨w.heap.size, 2, none⟩ = some (.int .i64 (N : Int)) := by rw [Lib.cell_of_heap hbk]; rfl
  have c3 : wb.cell? ⟨w.heap.size, 3, none⟩ = some (.string word) := by rw [Lib.cell_of_heap hbk]; rfl
  have c4 : wb.cell? ⟨w.heap.size, 4, none⟩ = some (.slice A all.length c) := by rw [Lib.cell_of_heap hbk]; rfl
  have HB := Lib.hid hb
  obtain ⟨bb, bo, rfl, hbb, hbc⟩ := hS (by omega)
  have cS : wb.cell? ⟨bb, bo + t, none⟩ = some (sv (ss.getD t [])) := by
    refine (hb.cell (p := ⟨bb, bo + t, none⟩) hbb).trans ((hbc t ht).trans ?_)
    simp [List.getD, ht]
  have hmem : ss.getD t [] ∈ ss := by rw [List.getD, List.getElem?_eq_getElem ht]; exact List.getElem_mem ht
  have hul := hsl _ hmem
  have hun := hsn _ hmem
  obtain ⟨sw, hsw⟩ : ∃ sw : ByteArray, sv (ss.getD t []) = .string sw := ⟨_, rfl⟩
  have hswl : sw.data.toList = ss.getD t [] := by unfold sv at hsw; injection hsw with hsw; rw [← hsw]
  rw [hsw] at cS
  have hsz : sw.size ≤ 20 := by rw [← K.bsize, hswl]; exact hul
  have hs0 : 0 < sw.size := by rw [← K.bsize, hswl]; exact List.length_pos_iff.2 hun
  have HSW := Lib.hid (And.intro hswl ht)
  have i0 : (t : Int) < (ss.length : Int) := by omega
  clear hbc hmem hul hun hsw hswl hsl hsn
  clear hbk hb
  by_cases hlt : N < sw.size
  · have hmin : min (N : Int) (sw.size : Int) = (N : Int) := by omega
    have hlt2 : (N : Int) < (sw.size : Int) := by omega
    have hk1 : (N : Int) ≤ (sw.size : Int) := by omega
    have hk2 : (0 : Int) ≤ (N : Int) := by omega
    have hk3 : (sw.size : Int) ≤ (sw.size : Int) := by omega
    have hk4 : (0 : Int) ≤ (sw.size : Int) := by omega
    have HLT := Lib.hid hlt
    clear hlt
    go_enter Tryd.func20, Tryd.ntmps20
    go_upto_region 39 with (fail)
    refine K.wp_region_grew (by kernel_rfl) (by kernel_rfl) ?_
    repeat (first
      | go_big_quiet_skip
      | (go_big_quiet_want; go_big_quiet_op; go_big_quiet_on)
      | (go_big_quiet_want; go_big_quiet_op; refine ⟨_, fun _ _ => rfl, ?_⟩; go_big_quiet_on)
      | (go_big_quiet_want; refine K.quiet_cell (v := ?_) ?_ _ _ rfl rfl ?_ ?_
         rotate_left
         · assumption
         · (intro w hw; go_simp)
         simp only [Act.put, List.setIfInBounds_toArray, List.set_cons_zero, List.set_cons_succ]
         go_big_quiet_on)
      | (go_big_quiet_want; refine K.quiet_load _ _ rfl _ rfl ?_ ?_ ?_
         rotate_left
         · assumption
         simp only [Act.put, List.setIfInBounds_toArray, List.set_cons_zero, List.set_cons_succ]
         go_big_quiet_on))
    refine wpQuiet_nil ?_
    intro w2 hw2
    have HW2 := Lib.hid hw2
    clear hw2
    go_wp2_with fail
    go_ret2
    refine PtPost.mk (p := ⟨9, (t : Int) + 1, (N : Int), word, all⟩) true (sw.extract 0 N) (HB.out.trans (HW2.out.mono HB.out.size)) (by (try simp only [ByteArray.size_extract]); omega) (fun _ => .inr (.inr ⟨t, rfl, HSW.out.2, .inr (.inr ⟨N, rfl, hN1, hN2, by rw [← HSW.out.1, K.bsize]; exact HLT.out, .inr (.inr (.inr (.inr (.inl ⟨rfl, ?_⟩))))⟩)⟩))
    rw [← HSW.out.1]
    simp
  · have hmin : min (N : Int) (sw.size : Int) = (sw.size : Int) := by omega
    have hlt2 : ¬ (N : Int) < (sw.size : Int) := by omega
    have hk3 : (sw.size : Int) ≤ (sw.size : Int) := by omega
    have hk4 : (0 : Int) ≤ (sw.size : Int) := by omega
    have HLT := Lib.hid hlt
    clear hlt
    go_enter Tryd.func20, Tryd.ntmps20
    go_upto_region 39 with (fail)
    refine K.wp_region_grew (by kernel_rfl) (by kernel_rfl) ?_
    repeat (first
      | go_big_quiet_skip
      | (go_big_quiet_want; go_big_quiet_op; go_big_quiet_on)
      | (go_big_quiet_want; go_big_quiet_op; refine ⟨_, fun _ _ => rfl, ?_⟩; go_big_quiet_on)
      | (go_big_quiet_want; refine K.quiet_cell (v := ?_) ?_ _ _ rfl rfl ?_ ?_
         rotate_left
         · assumption
         · (intro w hw; go_simp)
         simp only [Act.put, List.setIfInBounds_toArray, List.set_cons_zero, List.set_cons_succ]
         go_big_quiet_on)
      | (go_big_quiet_want; refine K.quiet_load _ _ rfl _ rfl ?_ ?_ ?_
         rotate_left
         · assumption
         simp only [Act.put, List.setIfInBounds_toArray, List.set_cons_zero, List.set_cons_succ]
         go_big_quiet_on))
    refine wpQuiet_nil ?_
    intro w2 hw2
    have HW2 := Lib.hid hw2
    clear hw2
    go_wp2_with fail
    go_ret2
    exact PtPost.mk false _ (HB.out.trans (HW2.out.mono HB.out.size)) (by (try simp only [ByteArray.size_append, ByteArray.size_extract, s46, ByteArray.size_empty]); omega) (fun h => by cases h)
set_option maxHeartbeats 8000000 in
set_option maxRecDepth 100000 in
theorem put_10 (t N : Nat) (word : ByteArray) (all : List Int) (A : Option Addr) (c : Nat) (w : World) (_hw : word.size ≤ 20) (ss : List (List UInt8)) (B : Option Addr) (d : Nat) (hS : K.Lies w B ss.length (fun j => (ss.map sv).getD j undef)) (hsl : ∀ u ∈ ss, u.length ≤ 20) (hsn : ∀ u ∈ ss, u ≠ []) (hn : ss.length ≤ 8) (ht : t < ss.length) (hN1 : 1 ≤ N) (hN2 : N ≤ 1000) : Calls Tryd.prog 20 #[(⟨10, ((t : Int) + 1), (N : Int), word, all⟩ : Pi).v A c, .slice B ss.length d] w (PtPost ⟨10, ((t : Int) + 1), (N : Int), word, all⟩ ss w) := by
  unfold Pi.v
  have hbk := K.heap_alloc_at w (.cells #[.int .i64 10, .int .i64 ((t : Int) + 1), .int .i64 (N : Int), .string word, .slice A all.length c] 41)
  have hb : Below w.heap.size w (w.alloc (.cells #[.int .i64 10, .int .i64 ((t : Int) + 1), .int .i64 (N : Int), .string word, .slice A all.length c] 41)) := (Below.refl _ w).alloc (Nat.le_refl _) _
  obtain ⟨wb, hwb⟩ : ∃ wb, w.alloc (.cells #[.int .i64 10, .int .i64 ((t : Int) + 1), .int .i64 (N : Int), .string word, .slice A all.length c] 41) = wb := ⟨_, rfl⟩
  rw [hwb] at hbk hb
  have c0 : wb.cell? ⟨w.heap.size, 0, none⟩ = some (.int .i64 10) := by rw [Lib.cell_of_heap hbk]; rfl
  have c1 : wb.cell? ⟨w.heap.size, 1, none⟩ = some (.int .i64 ((t : Int) + 1)) := by rw [Lib.cell_of_heap hbk]; rfl
  have c2 : wb.cell? ⟨w.heap.size, 2, none⟩ = some (.int .i64 (N : Int)) := by rw [Lib.cell_of_heap hbk]; rfl
  have c3 : wb.cell? ⟨w.heap.size, 3, none⟩ = some (.string word) := by rw [Lib.cell_of_heap hbk]; rfl
  have c4 : wb.cell? ⟨w.heap.size, 4, none⟩ = some (.slice A all.length c) := by rw [Lib.cell_of_heap hbk]; rfl
  have HB := Lib.hid hb
  obtain ⟨bb, bo, rfl, hbb, hbc⟩ := hS (by omega)
  have cS : wb.cell? ⟨bb, bo + t, none⟩ = some (sv (ss.getD t [])) := by
    refine (hb.cell (p := ⟨bb, bo + t, none⟩) hbb).trans ((hbc t ht).trans ?_)
    simp [List.getD, ht]
  have hmem : ss.getD t [] ∈ ss := by rw [List.getD, List.getElem?_eq_getElem ht]; exact List.getElem_mem ht
  have hul := hsl _ hmem
  have hun := hsn _ hmem
  obtain ⟨sw, hsw⟩ : ∃ sw : ByteArray, sv (ss.getD t []) = .string sw := ⟨_, rfl⟩
  have hswl : sw.data.toList = ss.getD t [] := by unfold sv at hsw; injection hsw with hsw; rw [← hsw]
  rw [hsw] at cS
  have hsz : sw.size ≤ 20 := by rw [← K.bsize, hswl]; exact hul
  have hs0 : 0 < sw.size := by rw [← K.bsize, hswl]; exact List.length_pos_iff.2 hun
  have HSW := Lib.hid (And.intro hswl ht)
  have i0 : (t : Int) < (ss.length : Int) := by omega
  clear hbc hmem hul hun hsw hswl hsl hsn
  clear hbk hb
  by_cases hlt : N < sw.size
  · obtain ⟨M, hM⟩ : ∃ M : Nat, sw.size = M + N := ⟨sw.size - N, by omega⟩
    have hmin : max 0 ((sw.size : Int) - (N : Int)) = (M : Int) := by omega
    have hM2 : M ≤ sw.size := by omega
    have HM := Lib.hid hM
    clear hM
    have hlt2 : (N : Int) < (sw.size : Int) := by omega
    have hk1 : (M : Int) ≤ (sw.size : Int) := by omega
    have hk2 : (0 : Int) ≤ (M : Int) := by omega
    have hk3 : (sw.size : Int) ≤ (sw.size : Int) := by omega
    have hk4 : (0 : Int) ≤ (sw.size : Int) := by omega
    have HLT := Lib.hid hlt
    clear hlt
    go_enter Tryd.func20, Tryd.ntmps20
    go_upto_region 40 with (fail)
    refine K.wp_region_grew (by kernel_rfl) (by kernel_rfl) ?_
    repeat (first
      | go_big_quiet_skip
      | (go_big_quiet_want; go_big_quiet_op; go_big_quiet_on)
      | (go_big_quiet_want; go_big_quiet_op; refine ⟨_, fun _ _ => rfl, ?_⟩; go_big_quiet_on)
      | (go_big_quiet_want; refine K.quiet_cell (v := ?_) ?_ _ _ rfl rfl ?_ ?_
         rotate_left
         · assumption
         · (intro w hw; go_simp)
         simp only [Act.put, List.setIfInBounds_toArray, List.set_cons_zero, List.set_cons_succ]
         go_big_quiet_on)
      | (go_big_quiet_want; refine K.quiet_load _ _ rfl _ rfl ?_ ?_ ?_
         rotate_left
         · assumption
         simp only [Act.put, List.setIfInBounds_toArray, List.set_cons_zero, List.set_cons_succ]
         go_big_quiet_on))
    refine wpQuiet_nil ?_
    intro w2 hw2
    have HW2 := Lib.hid hw2
    clear hw2
    go_wp2_with fail
    go_ret2
    refine PtPost.mk (p := ⟨10, (t : Int) + 1, (N : Int), word, all⟩) true (sw.extract M sw.size) (HB.out.trans (HW2.out.mono HB.out.size)) (by (try simp only [ByteArray.size_extract]); omega) (fun _ => .inr (.inr ⟨t, rfl, HSW.out.2, .inr (.inr ⟨N, rfl, hN1, hN2, by rw [← HSW.out.1, K.bsize]; exact HLT.out, .inr (.inr (.inr (.inr (.inr ⟨rfl, ?_⟩))))⟩)⟩))
    rw [← HSW.out.1]
    rw [K.bsize, show sw.size - N = M from by have := HM.out; omega, tail_data]
  · have hmin : max 0 ((sw.size : Int) - (N : Int)) = 0 := by omega
    have hlt2 : ¬ (N : Int) < (sw.size : Int) := by omega
    have hk3 : (sw.size : Int) ≤ (sw.size : Int) := by omega
    have hk4 : (0 : Int) ≤ (sw.size : Int) := by omega
    have HLT := Lib.hid hlt
    clear hlt
    go_enter Tryd.func20, Tryd.ntmps20
    go_upto_region 40 with (fail)
    refine K.wp_region_grew (by kernel_rfl) (by kernel_rfl) ?_
    repeat (first
      | go_big_quiet_skip
      | (go_big_quiet_want; go_big_quiet_op; go_big_quiet_on)
      | (go_big_quiet_want; go_big_quiet_op; refine ⟨_, fun _ _ => rfl, ?_⟩; go_big_quiet_on)
      | (go_big_quiet_want; refine K.quiet_cell (v := ?_) ?_ _ _ rfl rfl ?_ ?_
         rotate_left
         · assumption
         · (intro w hw; go_simp)
         simp only [Act.put, List.setIfInBounds_toArray, List.set_cons_zero, List.set_cons_succ]
         go_big_quiet_on)
      | (go_big_quiet_want; refine K.quiet_load _ _ rfl _ rfl ?_ ?_ ?_
         rotate_left
         · assumption
         simp only [Act.put, List.setIfInBounds_toArray, List.set_cons_zero, List.set_cons_succ]
         go_big_quiet_on))
    refine wpQuiet_nil ?_
    intro w2 hw2
    have HW2 := Lib.hid hw2
    clear hw2
    go_wp2_with fail
    go_ret2
    exact PtPost.mk false _ (HB.out.trans (HW2.out.mono HB.out.size)) (by (try simp only [ByteArray.size_append, ByteArray.size_extract, s46, ByteArray.size_empty]); omega) (fun h => by cases h)
theorem mapPut_any (p : Pi) (A : Option Addr) (c : Nat) (w : World) (ss : List (List UInt8)) (B : Option Addr) (d : Nat) (hp : p.Sm) (hr : Right ss.length p) (hL : K.Lies w A p.all.length (K.nums .i64 p.all))
    (hS : K.Lies w B ss.length (fun j => (ss.map sv).getD j undef)) (hsl : ∀ u ∈ ss, u.length ≤ 20) (hsn : ∀ u ∈ ss, u ≠ []) (hn : ss.length ≤ 8) : Calls Tryd.prog 20 #[p.v A c, .slice B ss.length d] w (PtPost p ss w) := by
  obtain ⟨fn, at_, n, word, all⟩ := p
  obtain ⟨f0, f1, al, wl⟩ := hp
  simp only at f0 f1 al wl hL
  unfold Right at hr
  simp only at hr
  rcases hr with ⟨rfl, _⟩ | ⟨rfl, h1, h2, h3, h4, h5⟩ | ⟨hf, h1, h2⟩ | ⟨rfl, ⟨h1, h2⟩, m, hm, _⟩ | ⟨hf, ⟨h1, h2⟩, h4, h5⟩
  · exact put_0 at_ n word all A c w wl ss B d hS hsl hsn hn
  · obtain ⟨N, rfl⟩ : ∃ N : Nat, n = (N : Int) := ⟨n.toNat, by omega⟩
    obtain ⟨ts, hts⟩ : ∃ ts : List Nat, ts = all.map (fun z => (z - 1).toNat) := ⟨_, rfl⟩
    have hall : all = ts.map (fun (t : Nat) => (t : Int) + 1) := by
      rw [hts, List.map_map]
      apply List.ext_getElem
      · simp
      · intro i a b
        have := h3 all[i] (List.getElem_mem a)
        simp
        omega
    subst hall
    refine put_3 at_ N word ts A c w wl ss B d hS hsl hsn hn (by omega) (by omega) hL ?_ (by simpa using al)
    intro t ht
    have := h3 ((t : Int) + 1) (List.mem_map.2 ⟨t, ht, rfl⟩)
    omega
  · obtain ⟨t, rfl⟩ : ∃ t : Nat, at_ = (t : Int) + 1 := ⟨(at_ - 1).toNat, by omega⟩
    rcases hf with rfl | rfl
    · exact put_1 t n word all A c w wl ss B d hS hsl hsn hn (by omega)
    · exact put_2 t n word all A c w wl ss B d hS hsl hsn hn (by omega)
  · obtain ⟨t, rfl⟩ : ∃ t : Nat, at_ = (t : Int) + 1 := ⟨(at_ - 1).toNat, by omega⟩
    exact put_4 t n word all A c w wl ss B d hS hsl hsn hn (by omega) m hm
  · obtain ⟨t, rfl⟩ : ∃ t : Nat, at_ = (t : Int) + 1 := ⟨(at_ - 1).toNat, by omega⟩
    obtain ⟨N, rfl⟩ : ∃ N : Nat, n = (N : Int) := ⟨n.toNat, by omega⟩
    rcases hf with rfl | rfl | rfl | rfl | rfl | rfl
    · exact put_5 t N word all A c w wl ss B d hS hsl hsn hn (by omega) (by omega) (by omega)
    · exact put_6 t N word all A c w wl ss B d hS hsl hsn hn (by omega) (by omega) (by omega)
    · exact put_7 t N word all A c w wl ss B d hS hsl hsn hn (by omega) (by omega) (by omega)
    · exact put_8 t N word all A c w wl ss B d hS hsl hsn hn (by omega) (by omega) (by omega)
    · exact put_9 t N word all A c w wl ss B d hS hsl hsn hn (by omega) (by omega) (by omega)
    · exact put_10 t N word all A c w wl ss B d hS hsl hsn hn (by omega) (by omega) (by omega)
end Go.Proofs.YtocfcajafkkhdaaDoor
