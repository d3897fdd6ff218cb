/-
  strings.Builder's methods that write, at this program's own copyCheck.
  Pieces written one behind the other, a mark between them (plain).
  Plain: a word with points ahead of some of its bytes.
-/
import Derived.Test.YtocfcajafkkhdaaDoorShelf
import Derived.Test.YtocfcajafkkhdaaDoorZG1
import Derived.Test.YtocfcajafkkhdaaDoorTk
import Derived.Lib.AppendStr
/- Bd -/
section
namespace Go.Proofs.YtocfcajafkkhdaaDoor
open Go.RowKit

/-- a builder that holds these bytes -/
def Bld (B b : Nat) (l : List UInt8) (w : World) : Prop := Lib.IsBuilder 90 5 B b (Lib.byteCells l) w
theorem info5 : (Tryd.prog.info? 5).map (fun i => (i.zero, i.size, i.bytes)) = some (some (.int .u8 0), 1, 1) := by kernel_rfl
def DonePost (P : World → Prop) (e : Ending) (w' : World) : Prop := e = .returned (.tuple #[]) ∧ P w'
theorem size90 : (Tryd.prog.info? 90).map (·.size) = some 2 := by kernel_rfl
theorem lies90 : liesAt Tryd.prog Tryd.prog.depth 90 (2 / Tryd.prog.cellsOf 90) 0 90 1 = true := by kernel_rfl
set_option maxRecDepth 100000 in
theorem check_fresh (b : Nat) (w : World) (h0 : w.cell? ⟨b, 0, none⟩ = some (.pointer none)) (hsh : w.shape? b = some (90, 2)) (hfz : w.frozen? ⟨b, 0, none⟩ = false) :
    Calls Tryd.prog 57 #[.pointer (some ⟨b, 0, none⟩)] w (DonePost fun w' => w' = w.setCell ⟨b, 0, none⟩ (.pointer (some ⟨b, 0, none⟩))) := by
  obtain ⟨j, hj, hjs⟩ := Option.map_eq_some_iff.1 size90
  go_enter Tryd.func57, Tryd.ntmps57
  go_wp2
  rw [Lib.run_to_unsafe w ⟨b, 0, none⟩ Tryd.underlying88 Tryd.underlying114 hj (by rw [hjs]; decide) hsh (Nat.zero_lt_succ 1)]
  simp only [Result.andThen]
  rw [Oper.upon_value]
  go_wp2
  rw [run_callFunc_extern Tryd.func69 (by kernel_rfl) (by kernel_rfl) (by kernel_rfl) (e := Extern.AbiNoEscape.same) (by kernel_rfl)]
  rw [Lib.run_noEscape]
  simp only [Result.andThen]
  rw [Oper.upon_value]
  go_wp2
  rw [Lib.run_from_unsafe w ⟨b, 0, none⟩ Tryd.underlying114 Tryd.underlying88 hj hsh lies90]
  simp only [Result.andThen]
  rw [Oper.upon_value]
  go_wp2
  go_end0
  exact ⟨rfl, rfl⟩
set_option maxRecDepth 100000 in
theorem check_used (b : Nat) (w : World) (h0 : w.cell? ⟨b, 0, none⟩ = some (.pointer (some ⟨b, 0, none⟩))) : Calls Tryd.prog 57 #[.pointer (some ⟨b, 0, none⟩)] w (DonePost fun w' => w' = w) := by
  obtain ⟨j, hj, _⟩ := Option.map_eq_some_iff.1 size90
  go_enter Tryd.func57, Tryd.ntmps57
  go_wp2
  rw [Lib.run_neq_ptr_same w _ Tryd.underlying88 hj]
  go_wp2
  go_end0
  exact ⟨rfl, rfl⟩
theorem check_any (B b : Nat) (bs : List Value) (w : World) (h : Lib.IsBuilder 90 5 B b bs w) :
    Calls Tryd.prog 57 #[.pointer (some ⟨b, 0, none⟩)] w (DonePost fun w' => Lib.BuilderAt 90 5 B b (.pointer (some ⟨b, 0, none⟩)) bs w' ∧ Below B w w') := by
  rcases h with h | h
  · refine (check_fresh b w h.cell0 h.shape h.frozen0).mono ?_
    rintro e w' ⟨rfl, rfl⟩
    exact ⟨rfl, h.used _, (Below.refl B w).setCell (p := ⟨b, 0, none⟩) h.1 _⟩
  · refine (check_used b w h.cell0).mono ?_
    rintro e w' ⟨rfl, rfl⟩
    exact ⟨rfl, h, Below.refl B _⟩
def WrPost (r : Value) (B b : Nat) (bs : List Value) (w : World) (e : Ending) (w' : World) : Prop := e = .returned r ∧ Lib.BuilderAt 90 5 B b (.pointer (some ⟨b, 0, none⟩)) bs w' ∧ Below B w w'
set_option maxHeartbeats 2000000 in
set_option maxRecDepth 100000 in
theorem writeByte_any (B b : Nat) (bs : List Value) (c : Int) (w : World) (h : Lib.IsBuilder 90 5 B b bs w) (hlen : bs.length + 1 ≤ 140737488355328) (hBw : B ≤ w.heap.size) :
    Calls Tryd.prog 46 #[.pointer (some ⟨b, 0, none⟩), .int .u8 c] w (WrPost .nilIface B b (bs ++ [.int .u8 c]) w) := by
  obtain ⟨i0, hi, hz0, hz1, hz2⟩ := info_parts info5
  have hc := check_any B b bs w h
  clear h
  have HI := Lib.hid (And.intro hi (And.intro hz0 (And.intro hz1 hz2)))
  clear hi hz0 hz1 hz2
  go_enter Tryd.func46, Tryd.ntmps46
  go_wp2_with fail
  refine hc.mono ?_
  clear hc
  rintro e w1 ⟨rfl, h1, hb1⟩
  obtain ⟨hB, v, hbk, hown, hne⟩ := h1
  have c0 : w1.cell? ⟨b, 0, none⟩ = some (.pointer (some ⟨b, 0, none⟩)) := by rw [Lib.cell_of_heap hbk]; rfl
  have c1 : w1.cell? ⟨b, 1, none⟩ = some v := by rw [Lib.cell_of_heap hbk]; rfl
  go_wp2_with (at_builtin; refine wpList_append_own _ rfl _ _ 78 rfl B 5 i0 (.int .u8 0) 1 1 Tryd.underlying78 HI.out.1 HI.out.2.1 HI.out.2.2.1 HI.out.2.2.2 rfl (by decide) _ _ _ rfl (hown.alloc _) ⟨w1.heap.size, 0, none⟩ 1 1 [.int .u8 c] rfl rfl ?c1 ?c2 ?c3 ?c4 ?c5 ?_)
  case c1 => exact K.cells_one _ _ _
  case c2 => intro u hu; simp at hu; subst hu; rfl
  case c3 => unfold maxLen; omega
  case c4 => omega
  case c5 => have := hb1.size; simp; omega
  intro v' w2 hown' hgrow _
  have hlt : b < w1.heap.size := (Array.getElem?_eq_some_iff.1 hbk).1
  have hb2 : w2.heap[b]? = some (.cells #[.pointer (some ⟨b, 0, none⟩), v] 90 (0, 0)) := by
    rw [hgrow.block b (by simp; omega) (fun e => hne e.symm), Lib.alloc_old w1 _ b hlt]
    exact hbk
  have d0 : w2.cell? ⟨b, 0, none⟩ = some (.pointer (some ⟨b, 0, none⟩)) := by rw [Lib.cell_of_heap hb2]; rfl
  have d1 : w2.cell? ⟨b, 1, none⟩ = some v := by rw [Lib.cell_of_heap hb2]; rfl
  have f1 : w2.frozen? ⟨b, 1, none⟩ = false := Lib.frozen_of_heap hb2 1
  obtain ⟨g, cap, rfl⟩ : ∃ g cap, v' = .slice (some ⟨g, 0, none⟩) (bs.length + 1) cap := by
    rcases hown'.2 with ⟨_, h0⟩ | ⟨g, cap, cur, hv, _⟩
    · omega
    · exact ⟨g, cap, hv⟩
  go_wp2
  go_ret
  refine ⟨rfl, ?_, ?_⟩
  · exact Lib.BuilderAt.put (T := 90) (e := 5) hB hb2 (bs' := bs ++ [.int .u8 c]) (by simpa using hown') (by decide)
  · exact ((hb1.alloc (by have := hb1.size; omega) _).grown hgrow (by have := hb1.size; simp; omega) (fun k hk => (hown.lt k hk).1)).setCell (p := ⟨b, 1, none⟩) hB _
set_option maxHeartbeats 2000000 in
set_option maxRecDepth 100000 in
theorem writeString_any (B b : Nat) (bs : List Value) (s : ByteArray) (w : World) (h : Lib.IsBuilder 90 5 B b bs w) (hlen : bs.length + s.size ≤ 140737488355328) (hBw : B ≤ w.heap.size) :
    Calls Tryd.prog 43 #[.pointer (some ⟨b, 0, none⟩), .string s] w (WrPost (.tuple #[.int .i64 s.size, .nilIface]) B b (bs ++ Lib.strCells s) w) := by
  obtain ⟨i0, hi, hz0, hz1, hz2⟩ := info_parts info5
  have hc := check_any B b bs w h
  clear h
  have HI := Lib.hid (And.intro hi (And.intro hz0 (And.intro hz1 hz2)))
  clear hi hz0 hz1 hz2
  go_enter Tryd.func43, Tryd.ntmps43
  go_wp2_with fail
  refine hc.mono ?_
  clear hc
  rintro e w1 ⟨rfl, h1, hb1⟩
  obtain ⟨hB, v, hbk, hown, hne⟩ := h1
  have c0 : w1.cell? ⟨b, 0, none⟩ = some (.pointer (some ⟨b, 0, none⟩)) := by rw [Lib.cell_of_heap hbk]; rfl
  have c1 : w1.cell? ⟨b, 1, none⟩ = some v := by rw [Lib.cell_of_heap hbk]; rfl
  go_wp2_with (at_builtin; refine Lib.wpList_append_own_string _ rfl _ _ 78 9 rfl B 5 i0 Tryd.underlying78 Tryd.underlying9 HI.out.1 HI.out.2.1 HI.out.2.2.1 HI.out.2.2.2 _ _ _ rfl hown s rfl ?c3 ?c4 ?c5 ?_)
  case c3 => unfold maxLen; omega
  case c4 => omega
  case c5 => have := hb1.size; omega
  intro v' w2 hown' hgrow _
  have hlt : b < w1.heap.size := (Array.getElem?_eq_some_iff.1 hbk).1
  have hb2 : w2.heap[b]? = some (.cells #[.pointer (some ⟨b, 0, none⟩), v] 90 (0, 0)) := by
    rw [hgrow.block b hlt (fun e => hne e.symm)]
    exact hbk
  have d0 : w2.cell? ⟨b, 0, none⟩ = some (.pointer (some ⟨b, 0, none⟩)) := by rw [Lib.cell_of_heap hb2]; rfl
  have d1 : w2.cell? ⟨b, 1, none⟩ = some v := by rw [Lib.cell_of_heap hb2]; rfl
  have f1 : w2.frozen? ⟨b, 1, none⟩ = false := Lib.frozen_of_heap hb2 1
  obtain ⟨ao, n', cap, rfl⟩ : ∃ ao n' cap, v' = .slice ao n' cap := by
    rcases hown'.2 with ⟨hv, _⟩ | ⟨g, cap, cur, hv, _⟩
    · exact ⟨_, _, _, hv⟩
    · exact ⟨_, _, _, hv⟩
  go_wp2
  go_ret2
  refine ⟨rfl, ?_, ?_⟩
  · exact Lib.BuilderAt.put (T := 90) (e := 5) hB hb2 (bs' := bs ++ Lib.strCells s) (by rw [List.length_append, show (Lib.strCells s).length = s.size from by simp [Lib.strCells]]; exact hown') (by decide)
  · exact (hb1.grown hgrow (by have := hb1.size; omega) (fun k hk => (hown.lt k hk).1)).setCell (p := ⟨b, 1, none⟩) hB _
end Go.Proofs.YtocfcajafkkhdaaDoor
end
/- Pc -/
section
namespace Go.Proofs.YtocfcajafkkhdaaDoor

def pc (f : Nat → List UInt8) (n : Nat) : Nat → List UInt8
  | 0 => []
  | j + 1 => pc f n j ++ f j ++ (if j + 1 < n then [46] else [])
theorem pc_open (f : Nat → List UInt8) (n : Nat) : ∀ j, j < n → ∀ r, r ≠ [] → pc f n j ++ jn 46 r = jn 46 ((List.range j).map f ++ r)
  | 0, _, r, _ => by simp [pc]
  | j + 1, h, r, hr => by
    have ih := pc_open f n j (by omega) (f j :: r) (by simp)
    rw [jn_cons 46 (f j) hr] at ih
    rw [pc, if_pos h, List.range_succ, List.map_append, List.append_assoc, List.append_assoc]
    simpa using ih
theorem pc_all (f : Nat → List UInt8) (n : Nat) (h : 0 < n) : pc f n n = jn 46 ((List.range n).map f) := by
  obtain ⟨m, rfl⟩ : ∃ m, n = m + 1 := ⟨n - 1, by omega⟩
  have := pc_open f (m + 1) m (by omega) [f m] (by simp)
  rw [pc, if_neg (by omega), List.append_nil, List.range_succ, List.map_append]
  simpa [jn] using this
end Go.Proofs.YtocfcajafkkhdaaDoor
end
/- Dt -/
section
namespace Go.Proofs.YtocfcajafkkhdaaDoor

/-- the first bytes of a word, a point ahead of each place where the condition holds -/
def dots (cond : Nat → Bool) (w : List UInt8) : Nat → List UInt8
  | 0 => []
  | i + 1 => dots cond w i ++ (if cond i then [46] else []) ++ (w.drop i).take 1
theorem dots_run (cond : Nat → Bool) (w : List UInt8) (i : Nat) : ∀ k, 1 ≤ k → (∀ j, i < j → j < i + k → cond j = false) → dots cond w (i + k) = dots cond w i ++ (if cond i then [46] else []) ++ (w.drop i).take k
  | 0, h, _ => by omega
  | 1, _, _ => rfl
  | k + 2, _, h2 => by
    have ih := dots_run cond w i (k + 1) (by omega) (fun j h3 h4 => h2 j h3 (by omega))
    rw [show i + (k + 2) = (i + (k + 1)) + 1 from by omega, dots, ih, h2 (i + (k + 1)) (by omega) (by omega)]
    have e : (w.drop i).take (k + 1 + 1) = (w.drop i).take (k + 1) ++ (w.drop (i + (k + 1))).take 1 := by rw [List.take_add, List.drop_drop]
    rw [show k + 2 = k + 1 + 1 from rfl, e]
    simp
/-- the left's condition and the right's -/
def cL (N : Nat) (i : Nat) : Bool := decide (0 < i) && decide (i % N = 0)
def cR (N n : Nat) (i : Nat) : Bool := decide (0 < i) && decide ((n - i) % N = 0)
theorem cL_no {N i j : Nat} (hi : i % N = 0) (h1 : i < j) (h2 : j < i + N) : cL N j = false := by
  unfold cL
  have : ¬ j % N = 0 := by
    intro e
    obtain ⟨a, rfl⟩ := Nat.dvd_of_mod_eq_zero hi
    obtain ⟨b, rfl⟩ := Nat.dvd_of_mod_eq_zero e
    have h3 : a < b := Nat.lt_of_mul_lt_mul_left h1
    have h4 : N * (a + 1) ≤ N * b := Nat.mul_le_mul_left N h3
    rw [Nat.mul_add, Nat.mul_one] at h4
    omega
  simp [this]
theorem cR_no {N n i j : Nat} (hi : (n - i) % N = 0) (h1 : i < j) (h2 : j < i + N) (hn : i + N ≤ n) : cR N n j = false := by
  unfold cR
  have : ¬ (n - j) % N = 0 := by
    intro e
    obtain ⟨a, ha⟩ := Nat.dvd_of_mod_eq_zero hi
    obtain ⟨b, hb⟩ := Nat.dvd_of_mod_eq_zero e
    have h0 : N * b < N * a := by omega
    have h3 : b < a := Nat.lt_of_mul_lt_mul_left h0
    have h4 : N * (b + 1) ≤ N * a := Nat.mul_le_mul_left N h3
    rw [Nat.mul_add, Nat.mul_one] at h4
    omega
  simp [this]
theorem cR_first {N n j : Nat} (h0 : 0 < j) (h2 : j < n % N) : cR N n j = false := by
  unfold cR
  have : ¬ (n - j) % N = 0 := by
    intro e
    obtain ⟨b, hb⟩ := Nat.dvd_of_mod_eq_zero e
    have h1 := Nat.div_add_mod n N
    have h5 : n % N < N := Nat.mod_lt _ (by
      rcases Nat.eq_zero_or_pos N with h | h
      · subst h; omega
      · exact h)
    have hlt : N * (n / N) < N * b := by omega
    have h3 : n / N < b := Nat.lt_of_mul_lt_mul_left hlt
    have h4 : N * (n / N + 1) ≤ N * b := Nat.mul_le_mul_left N h3
    rw [Nat.mul_add, Nat.mul_one] at h4
    omega
  simp [this]
theorem dots_len (cond : Nat → Bool) (w : List UInt8) : ∀ i, (dots cond w i).length ≤ 2 * i
  | 0 => by simp [dots]
  | i + 1 => by
    have ih := dots_len cond w i
    unfold dots
    simp only [List.length_append, List.length_take]
    split <;> simp <;> omega
end Go.Proofs.YtocfcajafkkhdaaDoor
end
