/-
  tokenizeSubject and tokenizeSubjectIntoSlice: a subject's tokens, in an array of 32 texts.
  strconv's Itoa: FormatInt and FormatUint at a small number.
  Itoa; getHashPartition.
  tokenizeSubject and tokenizeSubjectIntoSlice.
-/
import Derived.Test.YtocfcajafkkhdaaDoorZG2
import Derived.Test.YtocfcajafkkhdaaDoorZG6
import Derived.ArgAppend
import Derived.Deep.WholeRow
import Derived.Deep.Cut
/- Tz -/
section
namespace Go.Proofs.YtocfcajafkkhdaaDoor
open Go.RowKit

/-- an array's first n cells -/
def ArrP (w : World) (g n : Nat) (xs : List Value) : Prop := ∃ (cur : Array Value) (t : TypeId), w.heap[g]? = some (.cells cur t (0, 0)) ∧ cur.size = 32 ∧ cur.toList.take n = xs ∧ xs.length = n
theorem ArrP.set {w : World} {g n : Nat} {xs : List Value} (h : ArrP w g n xs) (hn : n < 32) (u : Value) : ArrP (w.setCell ⟨g, n, none⟩ u) g (n + 1) (xs ++ [u]) := by
  obtain ⟨cur, t, h1, h2, h3, h4⟩ := h
  refine ⟨_, t, K.heap_setCell_at h1 u, by simp [h2], ?_, by simp [h4]⟩
  rw [Array.toList_setIfInBounds, List.take_succ_eq_append_getElem (by simp [h2, hn])]
  congr 1
  · rw [List.take_set_of_le (Nat.le_refl _), h3]
  · simp
theorem ArrP.lies {w : World} {g n : Nat} {xs : List Value} (h : ArrP w g n xs) : K.Lies w (some ⟨g, 0, none⟩) n (fun j => xs.getD j undef) := by
  intro hn
  obtain ⟨cur, t, h1, h2, h3, h4⟩ := h
  refine ⟨g, 0, rfl, lt_of h1, fun j hj => ?_⟩
  have : cur.toList[j]? = some (xs.getD j undef) := by
    have hx : xs[j]? = some (xs.getD j undef) := by rw [List.getD, List.getElem?_eq_getElem (by omega)]; rfl
    rw [← hx, ← h3, List.getElem?_take_of_lt hj]
  rw [Nat.zero_add]
  simpa [World.cell?, h1] using this
theorem wpList_app_arr {ops : Array Oper} {rest : List Oper} {o : Oper} {a : Act} {w : World} {Q : Exit → Act → World → Prop} (hgd : o.guard = none) (s x : Operand) (ho : o.op = .call { callee := .builtin .append, args := #[s, x], argTypes := #[22, 22] })
    (g n : Nat) (xs : List Value) (hs : a.eval s = .slice (some ⟨g, 0, none⟩) n 32) (hown : ArrP w g n xs) (gg c : Nat) (u : Value) (hx : a.eval x = .slice (some ⟨gg, 0, none⟩) 1 c) (hc : w.cell? ⟨gg, 0, none⟩ = some u) (h1 : u.oneCell' = true)
    (hn : n < 32) (h : ArrP (w.setCell ⟨g, n, none⟩ u) g (n + 1) (xs ++ [u]) → wpList Tryd.prog ops Q rest (a.put o.dst (.slice (some ⟨g, 0, none⟩) (n + 1) 32)) (w.setCell ⟨g, n, none⟩ u)) : wpList Tryd.prog ops Q (o :: rest) a w := by
  obtain ⟨i0, hi0, hz0, hz1, hz2⟩ := info_parts info9
  refine wpList_plain hgd fun K hK' => ?_
  have hnew := hown.set hn u
  obtain ⟨cur, t, b1, b2, b3, b4⟩ := hown
  have hrun := run_append_room_cells (P := Tryd.prog) w 22 o.type 9 i0 Tryd.underlying22 hi0 g 0 n 32 ⟨gg, 0, none⟩ 1 c [u] (by simp [hz1]) (fun j v hj => by
    match j, hj with
    | 0, hj => simp at hj; subst hj; rw [Addr.add_lit]; exact hc) (by intro v hv; simp at hv; subst hv; exact h1) (by omega)
    (fun j hj => by rw [hz1]; simp [World.cell?, b1, b2]; simp at hj; omega) (fun j hj => by simp [World.frozen?, b1])
  rw [hz1, Nat.mul_one, Nat.zero_add] at hrun
  have e2 : w.setCells g n [u] = w.setCell ⟨g, n, none⟩ u := rfl
  rw [e2] at hrun
  unfold Oper.wp
  simp [execOp, ho, resolve, invoke, builtin, hs, hx, hrun, Result.andThen]
  exact hK' _ _ (h hnew)

theorem z85 : (Tryd.prog.info? 85).map (fun i => match i.zero with | some (.agg cs) => cs.size == 32 && cs.all (fun v => match v with | .string s => s.size == 0 | _ => false) | _ => false) = some true := by kernel_rfl
theorem zero85 : ∃ cs : Array Value, cs.size = 32 ∧ (∀ v ∈ cs, ∃ s, v = .string s) ∧ ∀ w, (zeroValue 85).run Tryd.prog w = .ok (.agg cs) w := by
  have h := z85
  cases hi : Tryd.prog.info? 85 with
  | none => rw [hi] at h; cases h
  | some i =>
    rw [hi] at h
    simp only [Option.map_some, Option.some.injEq] at h
    split at h
    · rename_i cs hz
      rw [Bool.and_eq_true, Array.all_eq_true'] at h
      refine ⟨cs, by simpa using h.1, fun v hv => ?_, fun w => by simp [zeroValue, typeInfo, hi, hz]⟩
      have := h.2 v hv
      split at this
      · exact ⟨_, rfl⟩
      · cases this
    · cases h
theorem size85 : (Tryd.prog.info? 85).map (·.size) = some 32 := by kernel_rfl
/-- a new array of 32 texts is laid -/
theorem lay85 : ∃ cs : Array Value, cs.size = 32 ∧ (∀ w, (zeroValue 85).run Tryd.prog w = .ok (.agg cs) w) ∧ ∀ w : World, (storeCells ⟨w.heap.size, 0, none⟩ cs.toList 0).run Tryd.prog (w.alloc (.cells cs 85)) = .ok () (w.alloc (.cells cs 85)) := by
  obtain ⟨cs, h1, h2, h3⟩ := zero85
  refine ⟨cs, h1, h3, fun w => run_storeCells_new w 85 cs cs (by rw [h1]; exact size85) rfl ?_⟩
  rw [Array.all_eq_true']
  intro v hv
  obtain ⟨s, rfl⟩ := h2 v hv
  rfl
theorem ArrP.new (w : World) (cs : Array Value) (h : cs.size = 32) : ArrP (w.alloc (.cells cs 85)) w.heap.size 0 [] := ⟨cs, 85, K.heap_alloc_at w _, h, rfl, rfl⟩
end Go.Proofs.YtocfcajafkkhdaaDoor
end
/- It -/
section
namespace Go.Proofs.YtocfcajafkkhdaaDoor
open Go.RowKit

theorem z93 : (Tryd.prog.info? 93).map (fun i => match i.zero with | some (.agg cs) => cs.size == 64 && cs.all (fun v => match v with | .int .u8 n => n == 0 | _ => false) | _ => false) = some true := by kernel_rfl
theorem zero93 : ∃ cs : Array Value, cs.size = 64 ∧ (∀ v ∈ cs, v = .int .u8 0) ∧ ∀ w, (zeroValue 93).run Tryd.prog w = .ok (.agg cs) w := by
  have h := z93
  cases hi : Tryd.prog.info? 93 with
  | none => rw [hi] at h; cases h
  | some i =>
    rw [hi] at h
    simp only [Option.map_some, Option.some.injEq] at h
    split at h
    · rename_i cs hz
      rw [Bool.and_eq_true, Array.all_eq_true'] at h
      refine ⟨cs, by simpa using h.1, fun v hv => ?_, fun w => by simp [zeroValue, typeInfo, hi, hz]⟩
      have := h.2 v hv
      split at this
      · simp at this; rw [this]
      · cases this
    · cases h
theorem size93 : (Tryd.prog.info? 93).map (·.size) = some 64 := by kernel_rfl
/-- a new array of 64 bytes is laid -/
theorem lay93 : ∃ cs : Array Value, cs.size = 64 ∧ (∀ w, (zeroValue 93).run Tryd.prog w = .ok (.agg cs) w) ∧ ∀ w : World, (storeCells ⟨w.heap.size, 0, none⟩ cs.toList 0).run Tryd.prog (w.alloc (.cells cs 93)) = .ok () (w.alloc (.cells cs 93)) := by
  obtain ⟨cs, h1, h2, h3⟩ := zero93
  refine ⟨cs, h1, h3, fun w => run_storeCells_new w 93 cs cs (by rw [h1]; exact size93) rfl ?_⟩
  rw [Array.all_eq_true']
  intro v hv
  rw [h2 v hv]
  rfl
/-- the buffer: digits behind a place -/
def BufP (w : World) (g i : Nat) (t : List UInt8) (wr : World) : Prop :=
  Below w.heap.size w wr ∧ g < wr.heap.size ∧ w.heap.size ≤ g ∧ (∀ j, j < 64 → ∃ v, wr.cell? ⟨g, j, none⟩ = some v) ∧ (∀ j, wr.frozen? ⟨g, j, none⟩ = false) ∧ ∀ j (h : j < t.length), wr.cell? ⟨g, i + j, none⟩ = some (.int .u8 t[j].toNat)
theorem BufP.new (w : World) (cs : Array Value) (h : cs.size = 64) : BufP w w.heap.size 64 [] (w.alloc (.cells cs 93)) := by
  have hb := K.heap_alloc_at w (.cells cs 93)
  refine ⟨(Below.refl _ _).alloc (Nat.le_refl _) _, by simp, Nat.le_refl _, fun j hj => ⟨cs[j], ?_⟩, fun j => ?_, fun j hj => by simp at hj⟩
  · unfold World.cell?
    rw [hb]
    simp [show j < cs.size by omega]
  · unfold World.frozen?
    rw [hb]
    simp
theorem BufP.put {w wr : World} {g i : Nat} {t : List UInt8} (h : BufP w g (i + 1) t wr) (hi : i < 64) (c : UInt8) : BufP w g i (c :: t) (wr.setCell ⟨g, i, none⟩ (.int .u8 c.toNat)) := by
  obtain ⟨h1, h2, h3, h4, h5, h6⟩ := h
  refine ⟨h1.setCell h3 _, by simpa [World.setCell] using h2, h3, fun j hj => ?_, fun j => by rw [World.frozen?_setCell]; exact h5 j, fun j hj => ?_⟩
  · obtain ⟨v, hv⟩ := h4 j hj
    by_cases e : j = i
    · subst e
      exact ⟨_, World.cell?_setCell_same _ _ _ hv⟩
    · exact ⟨v, by rw [World.cell?_setCell_other _ _ _ _ (by intro e2; injection e2; omega)]; exact hv⟩
  · cases j with
    | zero =>
      obtain ⟨v, hv⟩ := h4 i hi
      exact World.cell?_setCell_same _ _ _ hv
    | succ j =>
      rw [World.cell?_setCell_other _ _ _ _ (by intro e2; injection e2; omega)]
      have := h6 j (by simpa using hj)
      rw [show i + 1 + j = i + (j + 1) from by omega] at this
      exact this
theorem dlit : ∀ d : Fin 10, (⟨#[48, 49, 50, 51, 52, 53, 54, 55, 56, 57, 97, 98, 99, 100, 101, 102, 103, 104, 105, 106, 107, 108, 109, 110, 111, 112, 113, 114, 115, 116, 117, 118, 119, 120, 121, 122]⟩ : ByteArray)[d.val]'(by have := d.isLt; have e : (⟨#[48, 49, 50, 51, 52, 53, 54, 55, 56, 57, 97, 98, 99, 100, 101, 102, 103, 104, 105, 106, 107, 108, 109, 110, 111, 112, 113, 114, 115, 116, 117, 118, 119, 120, 121, 122]⟩ : ByteArray).size = 36 := rfl; omega) = UInt8.ofNat (48 + d.val) := by decide
theorem dlit2 (m : Nat) (h : m % 10 < (⟨#[48, 49, 50, 51, 52, 53, 54, 55, 56, 57, 97, 98, 99, 100, 101, 102, 103, 104, 105, 106, 107, 108, 109, 110, 111, 112, 113, 114, 115, 116, 117, 118, 119, 120, 121, 122]⟩ : ByteArray).size) : (⟨#[48, 49, 50, 51, 52, 53, 54, 55, 56, 57, 97, 98, 99, 100, 101, 102, 103, 104, 105, 106, 107, 108, 109, 110, 111, 112, 113, 114, 115, 116, 117, 118, 119, 120, 121, 122]⟩ : ByteArray)[m % 10]'h = dg m := dlit ⟨m % 10, Nat.mod_lt _ (by decide)⟩
set_option maxHeartbeats 2000000 in
set_option maxRecDepth 100000 in
theorem fmtuint_any (n : Nat) (w : World) (hn : n ≤ 1000000) : Calls Tryd.prog 77 #[.int .u64 n, .int .i64 10] w (NonePost (.string ⟨(decs n).toArray⟩) w) := by
  obtain ⟨cs, hcs, hz, hst⟩ := lay93
  have hst0 := hst w
  clear hst
  go_enter Tryd.func77, Tryd.ntmps77
  go_upto_region 5 with (fail)
  have HB := Lib.hid (BufP.new w cs hcs)
  clear hcs hz hst0
  go_loopg [0, 6] (n + 1) (fun gk nv iv wr => ∃ (m i : Nat) (t : List UInt8), nv = .int .u64 m ∧ iv = .int .i64 i ∧ i + t.length = 64 ∧ 40 ≤ i ∧ m ≤ n ∧ ((i < 64 ∧ gk = m) ∨ (i = 64 ∧ gk = n + 1)) ∧ Hid (BufP w w.heap.size i t wr ∧ m * 10 ^ t.length ≤ n ∧ ((i = 64 ∧ m = n ∧ t = []) ∨ (i < 64 ∧ ((m = 0 ∧ decs n = t) ∨ (0 < m ∧ decs n = decs m ++ t))))))
  case atStart => exact ⟨n, 64, [], rfl, rfl, rfl, by omega, Nat.le_refl _, .inr ⟨rfl, rfl⟩, Lib.hid ⟨HB.out, by simp, .inl ⟨rfl, rfl, rfl⟩⟩⟩
  case round =>
    obtain ⟨m, i, t, rfl, rfl, hit, hi40, hmn, hg, H⟩ := hrel
    by_cases hgo : i = 64 ∨ 0 < m
    · have hgo' : ((i : Int) == 64) = true ∨ (((i : Int) == 64) = false ∧ (0 : Int) < (m : Int)) := by
        by_cases e : i = 64
        · left; rw [e]; rfl
        · right
          refine ⟨by rw [beq_eq_false_iff_ne]; omega, by omega⟩
      obtain ⟨k, rfl⟩ : ∃ k, i = k + 1 := ⟨i - 1, by omega⟩
      have hk : k < 64 := by omega
      obtain ⟨cv, c0⟩ := H.out.1.2.2.2.1 k hk
      have z0 := H.out.1.2.2.2.2.1 k
      have q1 : (k : Int) + 1 - 1 = (k : Int) := by omega
      have q2 : (k : Int) < 64 := by omega
      have q3 : (0 : Int) ≤ (m : Int) % 10 := by omega
      have q4 : (m : Int) % 10 < 36 := by omega
      have hput := Lib.hid (H.out.1.put hk (dg m))
      have hdl := dlit2 m
      have hfin : Hid ((k < 64 ∧ ((m / 10 = 0 ∧ decs n = dg m :: t) ∨ (0 < m / 10 ∧ decs n = decs (m / 10) ++ dg m :: t))) ∧ m / 10 * 10 ^ (t.length + 1) ≤ n) := Lib.hid (by
        have hd : decs n = decs m ++ t := by
          rcases H.out.2.2 with ⟨_, e1, e2⟩ | ⟨_, ⟨e1, e2⟩ | ⟨_, e⟩⟩
          · rw [e1, e2, List.append_nil]
          · omega
          · exact e
        refine ⟨⟨hk, ?_⟩, ?_⟩
        · by_cases h10 : m < 10
          · exact .inl ⟨by omega, by rw [hd, decs_lt h10]; rfl⟩
          · exact .inr ⟨by omega, by rw [hd, decs_ge h10]; simp⟩
        · refine Nat.le_trans ?_ H.out.2.1
          rw [Nat.pow_succ, Nat.mul_comm (10 ^ t.length) 10, ← Nat.mul_assoc]
          exact Nat.mul_le_mul_right _ (Nat.div_mul_le_self m 10))
      have hk40 : 40 ≤ k := by
        have h3 := hfin.out.2
        by_cases h0 : m / 10 = 0
        · have h4 : t.length ≤ 20 := by
            rcases Nat.eq_zero_or_pos m with h5 | h5
            · rcases H.out.2.2 with ⟨_, _, e2⟩ | ⟨h6, ⟨_, e2⟩ | ⟨h7, _⟩⟩
              · rw [e2]; simp
              · omega
              · omega
            · exact few H.out.2.1 (.inl h5) (by omega)
          omega
        · have h4 := few h3 (.inl (by omega)) (by omega)
          omega
      have hgm : m / 10 < gk := by
        rcases hg with ⟨_, h⟩ | ⟨_, h⟩ <;> omega
      rcases hgo' with h1 | ⟨h1, h2⟩
      · obtain rfl : k = 63 := by
          have := eq_of_beq h1
          omega
        clear H h1 q1 q2
        go_wp2_with fail
        go_roundg (m / 10)
        case measure => omega
        case rel => exact ⟨m / 10, 63, dg m :: t, by go_num, by go_num, by simp; omega, by omega, by omega, .inl ⟨by omega, rfl⟩, Lib.hid ⟨hput.out, by simpa using hfin.out.2, .inr hfin.out.1⟩⟩
      · have h3 : (((k : Int) + 1) == 64) = false := by rw [← h1]; congr 1
        have h4 : ¬ (k : Int) + 1 = 64 := by simpa using h3
        clear H h1
        go_wp2_with fail
        go_roundg (m / 10)
        case measure => omega
        case rel => exact ⟨m / 10, k, dg m :: t, by go_num, by go_num, by simp; omega, by omega, by omega, .inl ⟨by omega, rfl⟩, Lib.hid ⟨hput.out, by simpa using hfin.out.2, .inr hfin.out.1⟩⟩
    · have h1 : ((i : Int) == 64) = false := by rw [beq_eq_false_iff_ne]; omega
      have h2 : ¬ (0 : Int) < (m : Int) := by omega
      have hcv : (convert 78 9 (.slice (some ⟨w.heap.size, i, none⟩) (64 - i) (64 - i))).run Tryd.prog wr = .ok (.string ⟨t.toArray⟩) wr := by
        rw [show 64 - i = t.length from by omega]
        exact run_convert_bytes_back wr 78 9 5 ⟨w.heap.size, i, none⟩ t.length t Tryd.underlying78 Tryd.underlying5 Tryd.underlying9 (fun j hj => by have := H.out.1.2.2.2.2.2 j hj; rw [Addr.add_lit]; exact this)
      have q0 : (i : Int) ≤ 64 := by omega
      go_wp2_with fail
      go_ret
      refine ⟨?_, H.out.1.1⟩
      rcases H.out.2.2 with ⟨e, _⟩ | ⟨_, ⟨_, e⟩ | ⟨e, _⟩⟩
      · omega
      · rw [e]; rfl
      · omega
end Go.Proofs.YtocfcajafkkhdaaDoor
end
/- Hp -/
section
namespace Go.Proofs.YtocfcajafkkhdaaDoor
open Go.RowKit

set_option maxRecDepth 100000 in
theorem itoa_any (n : Nat) (w : World) (hn : n ≤ 1000000) : Calls Tryd.prog 60 #[.int .i64 n] w (NonePost (.string ⟨(decs n).toArray⟩) w) := by
  have h77 := fmtuint_any n w hn
  have h71 : Calls Tryd.prog 71 #[.int .i64 n, .int .i64 10] w (NonePost (.string ⟨(decs n).toArray⟩) w) := by
    go_enter Tryd.func71, Tryd.ntmps71
    go_wp2_with fail
    with_reducible refine h77.mono ?_
    rintro e w1 ⟨rfl, hb⟩
    go_wp2_with fail
    go_ret
    exact ⟨rfl, hb⟩
  clear h77
  go_enter Tryd.func60, Tryd.ntmps60
  go_wp2_with fail
  with_reducible refine h71.mono ?_
  rintro e w1 ⟨rfl, hb⟩
  go_wp2_with fail
  go_ret
  exact ⟨rfl, hb⟩
theorem m_write (b : Nat) (w : World) : (method 247 117 (.pointer (some ⟨b, 0, none⟩)) "Write").run Tryd.prog w = .ok (105, .pointer (some ⟨b, 0, none⟩)) w := by kernel_rfl
theorem m_sum (b : Nat) (w : World) : (method 247 117 (.pointer (some ⟨b, 0, none⟩)) "Sum32").run Tryd.prog w = .ok (104, .pointer (some ⟨b, 0, none⟩)) w := by kernel_rfl
/-- a partition's number as text -/
def hashed (N : Nat) (l : List UInt8) : List UInt8 := decs (fnvs 2166136261 l % N)
set_option maxRecDepth 100000 in
theorem hashpart_any (p : Value) (A : Option Addr) (c N : Nat) (l : List UInt8) (w : World) (hN : 1 ≤ N) (hN2 : N ≤ 1000) (hl : l.length ≤ 100000) (hL : K.Lies w A l.length (fun j => (u8s l).getD j undef)) :
    Calls Tryd.prog 45 #[p, .slice A l.length c, .int .i64 N] w (NonePost (.string ⟨(hashed N l).toArray⟩) w) := by
  have hnw := hnew w
  have hb0 : (w.alloc (.cells #[.int .u32 2166136261] 116)).heap[w.heap.size]? = some (.cells #[.int .u32 2166136261] 116 (0, 0)) := K.heap_alloc_at w _
  obtain ⟨h, hh⟩ : ∃ h : Nat, h = 2166136261 := ⟨_, rfl⟩
  have hlt : h < 4294967296 := by omega
  have hbw : Below w.heap.size w (w.alloc (.cells #[.int .u32 2166136261] 116)) := (Below.refl _ _).alloc (Nat.le_refl _) _
  obtain ⟨wa, hwa⟩ : ∃ wa, wa = w.alloc (.cells #[.int .u32 2166136261] 116) := ⟨_, rfl⟩
  rw [← hwa] at hb0 hbw
  have hLa := hL.below hbw (Nat.le_refl _)
  have e67 : (2166136261 : Int) = ((2166136261 : Nat) : Int) := rfl
  rw [e67] at hb0
  rw [← hh] at hb0
  have hwr := hwrite w.heap.size h A c l wa hl hlt hb0 hLa
  have c0 : wa.cell? ⟨w.heap.size, 0, none⟩ = some (.int .u32 h) := by rw [Lib.cell_of_heap hb0]; rfl
  obtain ⟨x, hx⟩ : ∃ x, fnvs h l = x := ⟨_, rfl⟩
  have hxl : x < 4294967296 := by
    rw [← hx]
    rcases List.eq_nil_or_concat l with rfl | ⟨a, b, rfl⟩
    · exact hlt
    · rw [List.concat_eq_append, fnvs_snoc]; exact fnv1_lt _ _
  rw [hx] at hwr
  have hs := hsum w.heap.size x (wa.setCell ⟨w.heap.size, 0, none⟩ (.int .u32 x)) (World.cell?_setCell_same _ _ _ c0)
  have hbz : Below w.heap.size w (wa.setCell ⟨w.heap.size, 0, none⟩ (.int .u32 x)) := hbw.setCell (Nat.le_refl _) _
  have hit := fun w => itoa_any (x % N) w (by have := Nat.mod_lt x (show N > 0 by omega); omega)
  unfold hashed
  rw [← hh, hx]
  have HH := Lib.hid (And.intro hwa hbz)
  clear hb0 hbw hLa hL c0 hh hx hlt e67 hbz hwa
  have hcv : ∀ w, (convert 3 59 (.int .i64 N)).run Tryd.prog w = .ok (.int .u32 N) w := by
    intro w
    have h1 := run_convert_int (P := Tryd.prog) w 3 59 .i64 N (by rw [Tryd.underlying3]; rfl) (by rw [kind59]; exact under59)
    rw [h1, kind59, IntWalk.u32_in _ (by omega)]
  have kind3 : Tryd.prog.intKind 3 = .i64 := by kernel_rfl
  have hcb : ∀ w, (convert 59 3 (.int .u32 ((x : Int) % (N : Int)))).run Tryd.prog w = .ok (.int .i64 ((x % N : Nat) : Int)) w := by
    intro w
    have h1 := run_convert_int (P := Tryd.prog) w 59 3 .u32 ((x : Int) % (N : Int)) (by rw [under59]; rfl) (by rw [kind3]; exact Tryd.underlying3)
    have h2 := Nat.mod_lt x (show N > 0 by omega)
    rw [h1, kind3, IntWalk.i64_in _ (by omega)]
    rfl
  have hmw := m_write w.heap.size
  have hms := m_sum w.heap.size
  have hn0 : ((N : Int) == 0) = false := by rw [beq_eq_false_iff_ne]; omega
  go_enter Tryd.func45, Tryd.ntmps45
  go_wp2_with fail
  with_reducible refine hnw.mono ?_
  rintro e w1 ⟨rfl, hw1⟩
  rw [← HH.out.1] at hw1
  subst hw1
  clear hnw
  go_wp2_with fail
  with_reducible refine hwr.mono ?_
  rintro e w1 ⟨rfl, rfl⟩
  clear hwr
  go_wp2_with fail
  with_reducible refine hs.mono ?_
  rintro e w1 ⟨rfl, rfl⟩
  clear hs
  go_wp2_with fail
  have h60 := hit (w1.setCell ⟨w.heap.size, 0, none⟩ (.int .u32 x))
  rw [show ((x % N : Nat) : Int) = (x : Int) % (N : Int) from by omega] at h60
  with_reducible refine h60.mono ?_
  rintro e w2 ⟨rfl, hb2⟩
  clear h60 hit
  go_wp2_with fail
  go_ret
  exact ⟨rfl, HH.out.2.trans (hb2.mono HH.out.2.size)⟩
end Go.Proofs.YtocfcajafkkhdaaDoor
end
/- Ty -/
section
namespace Go.Proofs.YtocfcajafkkhdaaDoor
open Go.RowKit

theorem grown_set (w : World) (g j : Nat) (u : Value) : w.grownBy (w.setCell ⟨g, j, none⟩ u) (some g) :=
  ⟨rfl, rfl, rfl, by simp, fun k _ hne => by rw [Below.heap_setCell _ _ _ _ (fun e : k = g => hne (by rw [e]))]⟩
theorem grown_trans {a b c : World} {r : Option Nat} (h : a.grownBy b r) (k : b.grownBy c r) : a.grownBy c r :=
  ⟨k.os.trans h.os, k.tape.trans h.tape, k.output.trans h.output, Nat.le_trans h.size k.size, fun j hj hne => (k.block j (Nat.lt_of_lt_of_le hj h.size) hne).trans (h.block j hj hne)⟩
/-- what is cut so far: the pieces, and where the next one begins -/
def TkRel (s : ByteArray) (w : World) (g : Nat) (wr : World) (st k n : Nat) : Prop :=
  ∃ ds : List (List UInt8), ds.length = n ∧ sp 46 s.data.toList = ds ++ sp 46 (s.data.toList.drop st) ∧ (∀ j, st ≤ j → j < k → s.data.toList[j]? ≠ some 46) ∧ ArrP wr g n (ds.map sv) ∧ w.grownBy wr (some g)
theorem TkRel.start (s : ByteArray) {w : World} {g : Nat} (h : ArrP w g 0 []) : TkRel s w g w 0 0 0 := ⟨[], rfl, by simp, fun j h1 h2 => by omega, h, World.grownBy.refl _ _⟩
theorem TkRel.arr {s : ByteArray} {w wr : World} {g st k n : Nat} (h : TkRel s w g wr st k n) : ∃ xs, ArrP wr g n xs := let ⟨_, _, _, _, h, _⟩ := h; ⟨_, h⟩
theorem TkRel.lt {s : ByteArray} {w wr : World} {g st k n : Nat} (h : TkRel s w g wr st k n) (hn : (sp 46 s.data.toList).length ≤ 32) : n < 32 := by
  obtain ⟨ds, h1, h2, _⟩ := h
  rw [h2, List.length_append, h1] at hn
  have := List.length_pos_iff.2 (sp_ne 46 (s.data.toList.drop st))
  omega
theorem TkRel.skip {s : ByteArray} {w wr : World} {g st k n : Nat} (h : TkRel s w g wr st k n) (hk : k < s.size) (hc : s[k] ≠ 46) : TkRel s w g wr st (k + 1) n := by
  obtain ⟨ds, h1, h2, h3, h4⟩ := h
  refine ⟨ds, h1, h2, fun j a b => ?_, h4⟩
  rcases Nat.lt_or_ge j k with hl | hl
  · exact h3 j a hl
  · obtain rfl : j = k := by omega
    rw [get_at hk]
    exact fun e => hc (Option.some.inj e)
theorem ArrP.alloc {w : World} {g n : Nat} {xs : List Value} (h : ArrP w g n xs) (o : Obj) : ArrP (w.alloc o) g n xs := by
  obtain ⟨cur, t, h1, h2⟩ := h
  exact ⟨cur, t, (Below.heap_alloc _ _ _ (lt_of h1)).trans h1, h2⟩
theorem TkRel.cut {s : ByteArray} {w wr : World} {g st k n : Nat} {o : Obj} (h : TkRel s w g wr st k n) (hk : k < s.size) (hc : s[k] = 46) (hst : st ≤ k) (hn : n < 32) :
    TkRel s w g ((wr.alloc o).setCell ⟨g, n, none⟩ (.string (s.extract st k))) (k + 1) (k + 1) (n + 1) := by
  obtain ⟨ds, h1, h2, h3, h4, h5⟩ := h
  have e1 := (List.take_append_drop (k - st) (s.data.toList.drop st)).symm
  rw [List.drop_drop, show st + (k - st) = k from by omega, K.drop_at s k hk, hc] at e1
  have e2 : (46 : UInt8) ∉ (s.data.toList.drop st).take (k - st) := by
    intro hm
    obtain ⟨j, hj, hx⟩ := List.mem_iff_getElem.1 hm
    rw [List.length_take] at hj
    rw [List.getElem_take, List.getElem_drop] at hx
    exact h3 (st + j) (by omega) (by omega) (by rw [List.getElem?_eq_getElem (by rw [K.bsize]; omega), hx])
  refine ⟨ds ++ [(s.data.toList.drop st).take (k - st)], by simp [h1], ?_, fun j a b => by omega, ?_, ?_⟩
  · have e3 : sp 46 (s.data.toList.drop st) = (s.data.toList.drop st).take (k - st) :: sp 46 (s.data.toList.drop (k + 1)) := by
      conv => lhs; rw [e1]
      exact sp_app 46 _ _ e2
    rw [h2, e3]
    simp
  · rw [List.map_append, List.map_cons, List.map_nil, show sv ((s.data.toList.drop st).take (k - st)) = .string (s.extract st k) from by rw [← sv_of, ext_data]]
    exact (h4.alloc o).set hn _
  · exact grown_trans (grown_trans h5 (World.grownBy_alloc wr o (some g))) (grown_set _ g n _)
theorem TkRel.last {s : ByteArray} {w wr : World} {g st n : Nat} {o : Obj} (h : TkRel s w g wr st s.size n) (hst : st ≤ s.size) (hn : n < 32) :
    ∃ w', w' = (wr.alloc o).setCell ⟨g, n, none⟩ (.string (s.extract st s.size)) ∧ ArrP w' g (sp 46 s.data.toList).length ((sp 46 s.data.toList).map sv) ∧ w.grownBy w' (some g) ∧ (sp 46 s.data.toList).length = n + 1 := by
  obtain ⟨ds, h1, h2, h3, h4, h5⟩ := h
  have e2 : (46 : UInt8) ∉ s.data.toList.drop st := by
    intro hm
    obtain ⟨j, hj, hx⟩ := List.mem_iff_getElem.1 hm
    rw [List.length_drop, K.bsize] at hj
    rw [List.getElem_drop] at hx
    exact h3 (st + j) (by omega) (by omega) (by rw [List.getElem?_eq_getElem (by rw [K.bsize]; omega), hx])
  have e3 : sp 46 s.data.toList = ds ++ [s.data.toList.drop st] := by rw [h2, sp_no 46 _ e2]
  have e4 : sv (s.data.toList.drop st) = .string (s.extract st s.size) := by
    rw [← sv_of, ext_data, List.take_of_length_le (by rw [List.length_drop, K.bsize]; exact Nat.le_refl _)]
  refine ⟨_, rfl, ?_, grown_trans (grown_trans h5 (World.grownBy_alloc wr o (some g))) (grown_set _ g n _), by rw [e3]; simp [h1]⟩
  rw [e3, List.map_append, List.map_cons, List.map_nil, e4, List.length_append, List.length_singleton, h1]
  exact (h4.alloc o).set hn _

def TokPost (s : ByteArray) (w : World) (e : Ending) (w' : World) : Prop :=
  ∃ g, e = .returned (.slice (some ⟨g, 0, none⟩) (sp 46 s.data.toList).length 32) ∧ Below w.heap.size w w' ∧ w.heap.size ≤ g ∧ K.Lies w' (some ⟨g, 0, none⟩) (sp 46 s.data.toList).length (fun j => ((sp 46 s.data.toList).map sv).getD j undef)
set_option maxHeartbeats 4000000 in
set_option maxRecDepth 100000 in
theorem tok_any (s : ByteArray) (w : World) (hs : s.size ≤ 100000) (hn : (sp 46 s.data.toList).length ≤ 32) : Calls Tryd.prog 29 #[.string s] w (TokPost s w) := by
  obtain ⟨cs, hcs, hz, hst⟩ := lay85
  have hst0 := hst w
  clear hst
  go_enter Tryd.func29, Tryd.ntmps29
  go_upto_region 5 with (fail)
  have HA := Lib.hid (ArrP.new w cs hcs)
  have hsz : (w.alloc (.cells cs 85)).heap.size = w.heap.size + 1 := by simp
  have hb0 : Below w.heap.size w (w.alloc (.cells cs 85)) := (Below.refl _ _).alloc (Nat.le_refl _) _
  clear hcs hz hst0
  generalize w.alloc (.cells cs 85) = w0 at HA hb0 hsz ⊢
  have HB := Lib.hid (And.intro hb0 hsz)
  clear hb0 hsz
  go_loopg [4, 5, 6] (s.size + 1) (fun gk tv sv_ i wr => ∃ (k st n : Nat), k ≤ s.size ∧ st ≤ k ∧ gk = s.size + 1 - k ∧ i = .int .i64 k ∧ sv_ = .int .i64 st ∧ tv = .slice (some ⟨w.heap.size, 0, none⟩) n 32 ∧ Hid (TkRel s w0 w.heap.size wr st k n))
  case atStart => exact ⟨0, 0, 0, by omega, by omega, by omega, rfl, rfl, rfl, Lib.hid (TkRel.start s HA.out)⟩
  case round =>
    obtain ⟨k, st, n, hk, hst, hg, rfl, rfl, rfl, HT⟩ := hrel
    have hn32 := HT.out.lt hn
    by_cases hlt : k < s.size
    · have b0 : (0 : Int) ≤ (st : Int) := by omega
      have b1 : (st : Int) ≤ (k : Int) := by omega
      have b2 : (k : Int) ≤ (s.size : Int) := by omega
      by_cases hc : s[k] = 46
      · have e46 : ((s[k].toNat : Nat) : Int) = 46 := congrArg (fun c : UInt8 => ((c.toNat : Nat) : Int)) hc
        have HT2 := Lib.hid (HT.out.cut (o := .cells #[.string (s.extract st k)] 9) hlt hc hst hn32)
        obtain ⟨xs, hxs⟩ := HT.out.arr
        have HX := Lib.hid (hxs.alloc (.cells #[.string (s.extract st k)] 9))
        clear hc hxs
        go_wp2_with (at_builtin; refine wpList_app_arr rfl (.tmp 19) (.tmp 24) rfl w.heap.size n xs rfl HX.out _ _ _ rfl (new_cell _ _ _) rfl hn32 ?_; intro _hx)
        go_roundg (gk - 1)
        case measure => omega
        case rel => exact ⟨k + 1, k + 1, n + 1, by omega, by omega, by omega, by go_num, by go_num, rfl, HT2⟩
      · have b46 : (((s[k].toNat : Nat) : Int) == 46) = false := ne_int hc
        have m46 : ¬ ((s[k].toNat : Nat) : Int) = 46 := by simpa using b46
        have HT2 := Lib.hid (HT.out.skip hlt hc)
        clear hc
        go_wp2_with fail
        go_roundg (gk - 1)
        case measure => omega
        case rel => exact ⟨k + 1, st, n, by omega, by omega, by omega, by go_num, rfl, rfl, HT2⟩
    · obtain rfl : k = s.size := by omega
      have b0 : (0 : Int) ≤ (st : Int) := by omega
      have b1 : (st : Int) ≤ (s.size : Int) := by omega
      obtain ⟨xs, hxs⟩ := HT.out.arr
      have HX := Lib.hid (hxs.alloc (.cells #[.string (s.extract st s.size)] 9))
      obtain ⟨wz, hwz, z1, z2, z3⟩ := HT.out.last (o := .cells #[.string (s.extract st s.size)] 9) hst hn32
      have HZ := Lib.hid (And.intro hwz (And.intro z1 (And.intro z2 z3)))
      clear hxs hwz z1 z2 z3
      go_wp2_with (at_builtin; refine wpList_app_arr rfl (.tmp 28) (.tmp 32) rfl w.heap.size n xs rfl HX.out _ _ _ rfl (new_cell _ _ _) rfl hn32 ?_; intro _hx)
      go_ret
      obtain ⟨rfl, z1, z2, z3⟩ := HZ.out
      refine ⟨w.heap.size, by rw [z3]; rfl, ?_, Nat.le_refl _, z1.lies⟩
      exact HB.out.1.grown z2 (by rw [HB.out.2]; omega) (fun g hg => by cases hg; exact Nat.le_refl _)
def IntoPost (s : ByteArray) (g : Nat) (w : World) (e : Ending) (w' : World) : Prop :=
  e = .returned (.slice (some ⟨g, 0, none⟩) (sp 46 s.data.toList).length 32) ∧ w.grownBy w' (some g) ∧ K.Lies w' (some ⟨g, 0, none⟩) (sp 46 s.data.toList).length (fun j => ((sp 46 s.data.toList).map sv).getD j undef)
set_option maxHeartbeats 4000000 in
set_option maxRecDepth 100000 in
theorem into_any (s : ByteArray) (g : Nat) (w0 : World) (hs : s.size ≤ 100000) (hn : (sp 46 s.data.toList).length ≤ 32) (hA : ArrP w0 g 0 []) : Calls Tryd.prog 41 #[.slice (some ⟨g, 0, none⟩) 0 32, .string s] w0 (IntoPost s g w0) := by
  have HA := Lib.hid hA
  clear hA
  go_enter Tryd.func41, Tryd.ntmps41
  go_upto_region 3 with (fail)
  go_loopg [0, 5, 6] (s.size + 1) (fun gk tv sv_ i wr => ∃ (k st n : Nat), k ≤ s.size ∧ st ≤ k ∧ gk = s.size + 1 - k ∧ i = .int .i64 k ∧ sv_ = .int .i64 st ∧ tv = .slice (some ⟨g, 0, none⟩) n 32 ∧ Hid (TkRel s w0 g wr st k n))
  case atStart => exact ⟨0, 0, 0, by omega, by omega, by omega, rfl, rfl, rfl, Lib.hid (TkRel.start s HA.out)⟩
  case round =>
    obtain ⟨k, st, n, hk, hst, hg, rfl, rfl, rfl, HT⟩ := hrel
    have hn32 := HT.out.lt hn
    by_cases hlt : k < s.size
    · have b0 : (0 : Int) ≤ (st : Int) := by omega
      have b1 : (st : Int) ≤ (k : Int) := by omega
      have b2 : (k : Int) ≤ (s.size : Int) := by omega
      by_cases hc : s[k] = 46
      · have e46 : ((s[k].toNat : Nat) : Int) = 46 := congrArg (fun c : UInt8 => ((c.toNat : Nat) : Int)) hc
        have HT2 := Lib.hid (HT.out.cut (o := .cells #[.string (s.extract st k)] 9) hlt hc hst hn32)
        obtain ⟨xs, hxs⟩ := HT.out.arr
        have HX := Lib.hid (hxs.alloc (.cells #[.string (s.extract st k)] 9))
        clear hc hxs
        go_wp2_with (at_builtin; refine wpList_app_arr rfl (.tmp 17) (.tmp 22) rfl g n xs rfl HX.out _ _ _ rfl (new_cell _ _ _) rfl hn32 ?_; intro _hx)
        go_roundg (gk - 1)
        case measure => omega
        case rel => exact ⟨k + 1, k + 1, n + 1, by omega, by omega, by omega, by go_num, by go_num, rfl, HT2⟩
      · have b46 : (((s[k].toNat : Nat) : Int) == 46) = false := ne_int hc
        have m46 : ¬ ((s[k].toNat : Nat) : Int) = 46 := by simpa using b46
        have HT2 := Lib.hid (HT.out.skip hlt hc)
        clear hc
        go_wp2_with fail
        go_roundg (gk - 1)
        case measure => omega
        case rel => exact ⟨k + 1, st, n, by omega, by omega, by omega, by go_num, rfl, rfl, HT2⟩
    · obtain rfl : k = s.size := by omega
      have b0 : (0 : Int) ≤ (st : Int) := by omega
      have b1 : (st : Int) ≤ (s.size : Int) := by omega
      obtain ⟨xs, hxs⟩ := HT.out.arr
      have HX := Lib.hid (hxs.alloc (.cells #[.string (s.extract st s.size)] 9))
      obtain ⟨wz, hwz, z1, z2, z3⟩ := HT.out.last (o := .cells #[.string (s.extract st s.size)] 9) hst hn32
      have HZ := Lib.hid (And.intro hwz (And.intro z1 (And.intro z2 z3)))
      clear hxs hwz z1 z2 z3
      go_wp2_with (at_builtin; refine wpList_app_arr rfl (.tmp 26) (.tmp 30) rfl g n xs rfl HX.out _ _ _ rfl (new_cell _ _ _) rfl hn32 ?_; intro _hx)
      go_ret
      obtain ⟨rfl, z1, z2, z3⟩ := HZ.out
      exact ⟨by rw [z3]; rfl, z2, z1.lies⟩
end Go.Proofs.YtocfcajafkkhdaaDoor
end
