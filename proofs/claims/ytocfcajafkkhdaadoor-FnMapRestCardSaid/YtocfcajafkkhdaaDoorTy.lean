/-
  tokenizeSubject and tokenizeSubjectIntoSlice.
-/
import Derived.Test.YtocfcajafkkhdaaDoorTz
namespace Go.Proofs.YtocfcajafkkhdaaDoor
open Go.RowKit

theorem grown_set (w : World) (g j : Nat) (u : Value) : w.grownBy (w.setCell ⟨g, j, none⟩ u) (some g) :=
  ⟨rfl, rfl, rfl, by simp, fun k _ hne => by rw [Below.heap_setCell _ _ _ _ (fun e : k = g => hne (by rw [e]))]⟩
theorem grown_trans {a b c : World} {r : Option Nat} (h : a.grownBy b r) (k : b.grownBy c r) : a.grownBy c r :=
  ⟨k.os.trans h.os, k.tape.trans h.tape, k.output.trans h.output, Nat.le_trans h.size k.size, fun j hj hne => (k.block j (Nat.lt_of_lt_of_le hj h.size) hne).trans (h.block j hj hne)⟩
/-- what is cut so far: the pieces, and where the next one begins -/
def TkRel (s : ByteArray) (w : World) (g : Nat) (wr : World) (st k n : Nat) : Prop :=
  ∃ ds : List (List UInt8), ds.length = n ∧ sp 46 s.data.toList = ds ++ sp 46 (s.data.toList.drop st) ∧ (∀ j, st ≤ j → j < k → s.data.toList[j]? ≠ some 46) ∧ ArrP wr g n (ds.map sv) ∧ w.grownBy wr (some g)
theorem TkRel.start (s : ByteArray) {w : World} {g : Nat} (h : ArrP w g 0 []) : TkRel s w g w 0 0 0 := ⟨[], rfl, by simp, fun j h1 h2 => by omega, h, World.grownBy.refl _ _⟩
theorem TkRel.arr {s : ByteArray} {w wr : World} {g st k n : Nat} (h : TkRel s w g wr st k n) : ∃ xs, ArrP wr g n xs := let ⟨_, _, _, _, h, _⟩ := h; ⟨_, h⟩
theorem TkRel.lt {s : ByteArray} {w wr : World} {g st k n : Nat} (h : TkRel s w g wr st k n) (hn : (sp 46 s.data.toList).length ≤ 32) : n < 32 := by
  obtain ⟨ds, h1, h2, _⟩ := h
  rw [h2, List.length_append, h1] at hn
  have := List.length_pos_iff.2 (sp_ne 46 (s.data.toList.drop st))
  omega
theorem TkRel.skip {s : ByteArray} {w wr : World} {g st k n : Nat} (h : TkRel s w g wr st k n) (hk : k < s.size) (hc : s[k] ≠ 46) : TkRel s w g wr st (k + 1) n := by
  obtain ⟨ds, h1, h2, h3, h4⟩ := h
  refine ⟨ds, h1, h2, fun j a b => ?_, h4⟩
  rcases Nat.lt_or_ge j k with hl | hl
  · exact h3 j a hl
  · obtain rfl : j = k := by omega
    rw [get_at hk]
    exact fun e => hc (Option.some.inj e)
theorem ArrP.alloc {w : World} {g n : Nat} {xs : List Value} (h : ArrP w g n xs) (o : Obj) : ArrP (w.alloc o) g n xs := by
  obtain ⟨cur, t, h1, h2⟩ := h
  exact ⟨cur, t, (Below.heap_alloc _ _ _ (lt_of h1)).trans h1, h2⟩
theorem TkRel.cut {s : ByteArray} {w wr : World} {g st k n : Nat} {o : Obj} (h : TkRel s w g wr st k n) (hk : k < s.size) (hc : s[k] = 46) (hst : st ≤ k) (hn : n < 32) :
    TkRel s w g ((wr.alloc o).setCell ⟨g, n, none⟩ (.string (s.extract st k))) (k + 1) (k + 1) (n + 1) := by
  obtain ⟨ds, h1, h2, h3, h4, h5⟩ := h
  have e1 := (List.take_append_drop (k - st) (s.data.toList.drop st)).symm
  rw [List.drop_drop, show st + (k - st) = k from by omega, K.drop_at s k hk, hc] at e1
  have e2 : (46 : UInt8) ∉ (s.data.toList.drop st).take (k - st) := by
    intro hm
    obtain ⟨j, hj, hx⟩ := List.mem_iff_getElem.1 hm
    rw [List.length_take] at hj
    rw [List.getElem_take, List.getElem_drop] at hx
    exact h3 (st + j) (by omega) (by omega) (by rw [List.getElem?_eq_getElem (by rw [K.bsize]; omega), hx])
  refine ⟨ds ++ [(s.data.toList.drop st).take (k - st)], by simp [h1], ?_, fun j a b => by omega, ?_, ?_⟩
  · have e3 : sp 46 (s.data.toList.drop st) = (s.data.toList.drop st).take (k - st) :: sp 46 (s.data.toList.drop (k + 1)) := by
      conv => lhs; rw [e1]
      exact sp_app 46 _ _ e2
    rw [h2, e3]
    simp
  · rw [List.map_append, List.map_cons, List.map_nil, show sv ((s.data.toList.drop st).take (k - st)) = .string (s.extract st k) from by rw [← sv_of, ext_data]]
    exact (h4.alloc o).set hn _
  · exact grown_trans (grown_trans h5 (World.grownBy_alloc wr o (some g))) (grown_set _ g n _)
theorem TkRel.last {s : ByteArray} {w wr : World} {g st n : Nat} {o : Obj} (h : TkRel s w g wr st s.size n) (hst : st ≤ s.size) (hn : n < 32) :
    ∃ w', w' = (wr.alloc o).setCell ⟨g, n, none⟩ (.string (s.extract st s.size)) ∧ ArrP w' g (sp 46 s.data.toList).length ((sp 46 s.data.toList).map sv) ∧ w.grownBy w' (some g) ∧ (sp 46 s.data.toList).length = n + 1 := by
  obtain ⟨ds, h1, h2, h3, h4, h5⟩ := h
  have e2 : (46 : UInt8) ∉ s.data.toList.drop st := by
    intro hm
    obtain ⟨j, hj, hx⟩ := List.mem_iff_getElem.1 hm
    rw [List.length_drop, K.bsize] at hj
    rw [List.getElem_drop] at hx
    exact h3 (st + j) (by omega) (by omega) (by rw [List.getElem?_eq_getElem (by rw [K.bsize]; omega), hx])
  have e3 : sp 46 s.data.toList = ds ++ [s.data.toList.drop st] := by rw [h2, sp_no 46 _ e2]
  have e4 : sv (s.data.toList.drop st) = .string (s.extract st s.size) := by
    rw [← sv_of, ext_data, List.take_of_length_le (by rw [List.length_drop, K.bsize]; exact Nat.le_refl _)]
  refine ⟨_, rfl, ?_, grown_trans (grown_trans h5 (World.grownBy_alloc wr o (some g))) (grown_set _ g n _), by rw [e3]; simp [h1]⟩
  rw [e3, List.map_append, List.map_cons, List.map_nil, e4, List.length_append, List.length_singleton, h1]
  exact (h4.alloc o).set hn _

def TokPost (s : ByteArray) (w : World) (e : Ending) (w' : World) : Prop :=
  ∃ g, e = .returned (.slice (some ⟨g, 0, none⟩) (sp 46 s.data.toList).length 32) ∧ Below w.heap.size w w' ∧ w.heap.size ≤ g ∧ K.Lies w' (some ⟨g, 0, none⟩) (sp 46 s.data.toList).length (fun j => ((sp 46 s.data.toList).map sv).getD j undef)
set_option maxHeartbeats 4000000 in
set_option maxRecDepth 100000 in
theorem tok_any (s : ByteArray) (w : World) (hs : s.size ≤ 100000) (hn : (sp 46 s.data.toList).length ≤ 32) : Calls Tryd.prog 29 #[.string s] w (TokPost s w) := by
  obtain ⟨cs, hcs, hz, hst⟩ := lay85
  have hst0 := hst w
  clear hst
  go_enter Tryd.func29, Tryd.ntmps29
  go_upto_region 5 with (fail)
  have HA := Lib.hid (ArrP.new w cs hcs)
  have hsz : (w.alloc (.cells cs 85)).heap.size = w.heap.size + 1 := by simp
  have hb0 : Below w.heap.size w (w.alloc (.cells cs 85)) := (Below.refl _ _).alloc (Nat.le_refl _) _
  clear hcs hz hst0
  generalize w.alloc (.cells cs 85) = w0 at HA hb0 hsz ⊢
  have HB := Lib.hid (And.intro hb0 hsz)
  clear hb0 hsz
  go_loopg [4, 5, 6] (s.size + 1) (fun gk tv sv_ i wr => ∃ (k st n : Nat), k ≤ s.size ∧ st ≤ k ∧ gk = s.size + 1 - k ∧ i = .int .i64 k ∧ sv_ = .int .i64 st ∧ tv = .slice (some ⟨w.heap.size, 0, none⟩) n 32 ∧ Hid (TkRel s w0 w.heap.size wr st k n))
  case atStart => exact ⟨0, 0, 0, by omega, by omega, by omega, rfl, rfl, rfl, Lib.hid (TkRel.start s HA.out)⟩
  case round =>
    obtain ⟨k, st, n, hk, hst, hg, rfl, rfl, rfl, HT⟩ := hrel
    have hn32 := HT.out.lt hn
    by_cases hlt : k < s.size
    · have b0 : (0 : Int) ≤ (st : Int) := by omega
      have b1 : (st : Int) ≤ (k : Int) := by omega
      have b2 : (k : Int) ≤ (s.size : Int) := by omega
      by_cases hc : s[k] = 46
      · have e46 : ((s[k].toNat : Nat) : Int) = 46 := congrArg (fun c : UInt8 => ((c.toNat : Nat) : Int)) hc
        have HT2 := Lib.hid (HT.out.cut (o := .cells #[.string (s.extract st k)] 9) hlt hc hst hn32)
        obtain ⟨xs, hxs⟩ := HT.out.arr
        have HX := Lib.hid (hxs.alloc (.cells #[.string (s.extract st k)] 9))
        clear hc hxs
        go_wp2_with (at_builtin; refine wpList_app_arr rfl (.tmp 19) (.tmp 24) rfl w.heap.size n xs rfl HX.out _ _ _ rfl (new_cell _ _ _) rfl hn32 ?_; intro _hx)
        go_roundg (gk - 1)
        case measure => omega
        case rel => exact ⟨k + 1, k + 1, n + 1, by omega, by omega, by omega, by go_num, by go_num, rfl, HT2⟩
      · have b46 : (((s[k].toNat : Nat) : Int) == 46) = false := ne_int hc
        have m46 : ¬ ((s[k].toNat : Nat) : Int) = 46 := by simpa using b46
        have HT2 := Lib.hid (HT.out.skip hlt hc)
        clear hc
        go_wp2_with fail
        go_roundg (gk - 1)
        case measure => omega
        case rel => exact ⟨k + 1, st, n, by omega, by omega, by omega, by go_num, rfl, rfl, HT2⟩
    · obtain rfl : k = s.size := by omega
      have b0 : (0 : Int) ≤ (st : Int) := by omega
      have b1 : (st : Int) ≤ (s.size : Int) := by omega
      obtain ⟨xs, hxs⟩ := HT.out.arr
      have HX := Lib.hid (hxs.alloc (.cells #[.string (s.extract st s.size)] 9))
      obtain ⟨wz, hwz, z1, z2, z3⟩ := HT.out.last (o := .cells #[.string (s.extract st s.size)] 9) hst hn32
      have HZ := Lib.hid (And.intro hwz (And.intro z1 (And.intro z2 z3)))
      clear hxs hwz z1 z2 z3
      go_wp2_with (at_builtin; refine wpList_app_arr rfl (.tmp 28) (.tmp 32) rfl w.heap.size n xs rfl HX.out _ _ _ rfl (new_cell _ _ _) rfl hn32 ?_; intro _hx)
      go_ret
      obtain ⟨rfl, z1, z2, z3⟩ := HZ.out
      refine ⟨w.heap.size, by rw [z3]; rfl, ?_, Nat.le_refl _, z1.lies⟩
      exact HB.out.1.grown z2 (by rw [HB.out.2]; omega) (fun g hg => by cases hg; exact Nat.le_refl _)
def IntoPost (s : ByteArray) (g : Nat) (w : World) (e : Ending) (w' : World) : Prop :=
  e = .returned (.slice (some ⟨g, 0, none⟩) (sp 46 s.data.toList).length 32) ∧ w.grownBy w' (some g) ∧ K.Lies w' (some ⟨g, 0, none⟩) (sp 46 s.data.toList).length (fun j => ((sp 46 s.data.toList).map sv).getD j undef)
set_option maxHeartbeats 4000000 in
set_option maxRecDepth 100000 in
theorem into_any (s : ByteArray) (g : Nat) (w0 : World) (hs : s.size ≤ 100000) (hn : (sp 46 s.data.toList).length ≤ 32) (hA : ArrP w0 g 0 []) : Calls Tryd.prog 41 #[.slice (some ⟨g, 0, none⟩) 0 32, .string s] w0 (IntoPost s g w0) := by
  have HA := Lib.hid hA
  clear hA
  go_enter Tryd.func41, Tryd.ntmps41
  go_upto_region 3 with (fail)
  go_loopg [0, 5, 6] (s.size + 1) (fun gk tv sv_ i wr => ∃ (k st n : Nat), k ≤ s.size ∧ st ≤ k ∧ gk = s.size + 1 - k ∧ i = .int .i64 k ∧ sv_ = .int .i64 st ∧ tv = .slice (some ⟨g, 0, none⟩) n 32 ∧ Hid (TkRel s w0 g wr st k n))
  case atStart => exact ⟨0, 0, 0, by omega, by omega, by omega, rfl, rfl, rfl, Lib.hid (TkRel.start s HA.out)⟩
  case round =>
    obtain ⟨k, st, n, hk, hst, hg, rfl, rfl, rfl, HT⟩ := hrel
    have hn32 := HT.out.lt hn
    by_cases hlt : k < s.size
    · have b0 : (0 : Int) ≤ (st : Int) := by omega
      have b1 : (st : Int) ≤ (k : Int) := by omega
      have b2 : (k : Int) ≤ (s.size : Int) := by omega
      by_cases hc : s[k] = 46
      · have e46 : ((s[k].toNat : Nat) : Int) = 46 := congrArg (fun c : UInt8 => ((c.toNat : Nat) : Int)) hc
        have HT2 := Lib.hid (HT.out.cut (o := .cells #[.string (s.extract st k)] 9) hlt hc hst hn32)
        obtain ⟨xs, hxs⟩ := HT.out.arr
        have HX := Lib.hid (hxs.alloc (.cells #[.string (s.extract st k)] 9))
        clear hc hxs
        go_wp2_with (at_builtin; refine wpList_app_arr rfl (.tmp 17) (.tmp 22) rfl g n xs rfl HX.out _ _ _ rfl (new_cell _ _ _) rfl hn32 ?_; intro _hx)
        go_roundg (gk - 1)
        case measure => omega
        case rel => exact ⟨k + 1, k + 1, n + 1, by omega, by omega, by omega, by go_num, by go_num, rfl, HT2⟩
      · have b46 : (((s[k].toNat : Nat) : Int) == 46) = false := ne_int hc
        have m46 : ¬ ((s[k].toNat : Nat) : Int) = 46 := by simpa using b46
        have HT2 := Lib.hid (HT.out.skip hlt hc)
        clear hc
        go_wp2_with fail
        go_roundg (gk - 1)
        case measure => omega
        case rel => exact ⟨k + 1, st, n, by omega, by omega, by omega, by go_num, rfl, rfl, HT2⟩
    · obtain rfl : k = s.size := by omega
      have b0 : (0 : Int) ≤ (st : Int) := by omega
      have b1 : (st : Int) ≤ (s.size : Int) := by omega
      obtain ⟨xs, hxs⟩ := HT.out.arr
      have HX := Lib.hid (hxs.alloc (.cells #[.string (s.extract st s.size)] 9))
      obtain ⟨wz, hwz, z1, z2, z3⟩ := HT.out.last (o := .cells #[.string (s.extract st s.size)] 9) hst hn32
      have HZ := Lib.hid (And.intro hwz (And.intro z1 (And.intro z2 z3)))
      clear hxs hwz z1 z2 z3
      go_wp2_with (at_builtin; refine wpList_app_arr rfl (.tmp 26) (.tmp 30) rfl g n xs rfl HX.out _ _ _ rfl (new_cell _ _ _) rfl hn32 ?_; intro _hx)
      go_ret
      obtain ⟨rfl, z1, z2, z3⟩ := HZ.out
      exact ⟨by rw [z3]; rfl, z2, z1.lies⟩
end Go.Proofs.YtocfcajafkkhdaaDoor
