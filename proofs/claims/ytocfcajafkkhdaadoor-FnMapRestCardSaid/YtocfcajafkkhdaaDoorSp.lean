/-
  zzSplit at a mark of one byte; a string appended to a slice of one's own.
-/
import Derived.Test.YtocfcajafkkhdaaDoorIx
namespace Go.Proofs.YtocfcajafkkhdaaDoor
open Go.RowKit

theorem info_parts {t : TypeId} {z : Value} {n b : Nat} (h : (Tryd.prog.info? t).map (fun i => (i.zero, i.size, i.bytes)) = some (some z, n, b)) : ∃ i : TypeInfo, Tryd.prog.info? t = some i ∧ i.zero = some z ∧ i.size = n ∧ i.bytes = b := by
  cases hi : Tryd.prog.info? t with
  | none => rw [hi] at h; cases h
  | some i =>
    rw [hi] at h
    simp only [Option.map_some, Option.some.injEq, Prod.mk.injEq] at h
    exact ⟨i, rfl, h.1, h.2.1, h.2.2⟩
theorem info9 : (Tryd.prog.info? 9).map (fun i => (i.zero, i.size, i.bytes)) = some (some (.string ByteArray.empty), 1, 16) := by kernel_rfl
theorem wpList_app_str {ops : Array Oper} {rest : List Oper} {o : Oper} {a : Act} {w : World} {Q : Exit → Act → World → Prop} (hgd : o.guard = none) (s x : Operand) (ho : o.op = .call { callee := .builtin .append, args := #[s, x], argTypes := #[22, 22] })
    (base : Nat) (v : Value) (n : Nat) (xs : List Value) (hs : a.eval s = v) (hown : w.ownsRow base 9 1 v n xs) (g c : Nat) (t : ByteArray) (hx : a.eval x = .slice (some ⟨g, 0, none⟩) 1 c) (hc : w.cell? ⟨g, 0, none⟩ = some (.string t))
    (hn : n ≤ 100000) (hbase : base ≤ w.heap.size) (h : ∀ v' w', w'.ownsRow base 9 1 v' (n + 1) (xs ++ [.string t]) → w.grownBy w' v.ownBlock → wpList Tryd.prog ops Q rest (a.put o.dst v') w') : wpList Tryd.prog ops Q (o :: rest) a w := by
  obtain ⟨i0, hi0, hz0, hz1, hz2⟩ := info_parts info9
  refine wpList_append_own _ hgd s x 22 ho base 9 i0 (.string ByteArray.empty) 1 16 Tryd.underlying22 hi0 hz0 hz1 hz2 rfl (by decide) v n xs hs hown ⟨g, 0, none⟩ 1 c [.string t] hx rfl ?_ (by intro u hu; simp at hu; subst hu; rfl) (by unfold maxLen; omega) (by omega) hbase (fun v' w' h1 h2 _ => h v' w' h1 h2)
  intro j u hj
  match j, hj with
  | 0, hj =>
    simp at hj
    subst hj
    rw [Addr.add_lit]
    exact hc

/-- a piece as a value -/
def sv (t : List UInt8) : Value := .string ⟨t.toArray⟩
theorem sv_of (s : ByteArray) : sv s.data.toList = .string s := by unfold sv; rw [K.bmk]
theorem ext_data (s : ByteArray) (a b : Nat) : (s.extract a b).data.toList = (s.data.toList.drop a).take (b - a) := Lib.extract_data s a b
def SplitPost (c : UInt8) (s : ByteArray) (w : World) (e : Ending) (w' : World) : Prop :=
  ∃ v, e = .returned v ∧ Below w.heap.size w w' ∧ w'.ownsRow w.heap.size 9 1 v (sp c s.data.toList).length ((sp c s.data.toList).map sv)
/-- what is cut off so far -/
def SpRel (c : UInt8) (s : ByteArray) (w : World) (k : Nat) (v : Value) (t : ByteArray) (wr : World) : Prop :=
  ∃ ds : List (List UInt8), ds.length = k ∧ sp c s.data.toList = ds ++ sp c t.data.toList ∧ k + t.size ≤ s.size ∧ wr.ownsRow w.heap.size 9 1 v k (ds.map sv) ∧ Below w.heap.size w wr
theorem SpRel.start (c : UInt8) (s : ByteArray) (w : World) : SpRel c s w 0 (.slice none 0 0) s w := ⟨[], rfl, rfl, by omega, World.ownsRow_nil _ _ _ _, Below.refl _ _⟩
theorem SpRel.own {c : UInt8} {s t : ByteArray} {w wr : World} {k : Nat} {v : Value} (h : SpRel c s w k v t wr) : ∃ xs, wr.ownsRow w.heap.size 9 1 v k xs := let ⟨_, _, _, _, h, _⟩ := h; ⟨_, h⟩
set_option maxHeartbeats 1000000 in
set_option maxRecDepth 100000 in
theorem split_any (c : UInt8) (s : ByteArray) (w : World) (hs : s.size ≤ 100000) : Calls Tryd.prog 34 #[.string s, .string ⟨#[c]⟩] w (SplitPost c s w) := by
  have hl : (⟨#[c]⟩ : ByteArray).size = 1 := rfl
  go_enter Tryd.func34, Tryd.ntmps34
  go_wp2_with fail
  go_loopg [0, 5] (s.size + 1) (fun gk sv_ v wr => ∃ (k : Nat) (t : ByteArray), gk = s.size + 1 - k ∧ k ≤ s.size ∧ t.size ≤ 100000 ∧ sv_ = .string t ∧ Hid (SpRel c s w k v t wr))
  case atStart => exact ⟨0, s, by omega, by omega, hs, rfl, Lib.hid (SpRel.start c s w)⟩
  case round =>
    obtain ⟨k, t, hg, hk, ht, rfl, H⟩ := hrel
    go_wp2_with fail
    refine (index_any c t _ ht).mono ?_
    rintro e w1 ⟨rfl, ⟨j, hj, hc, hN, rfl⟩ | ⟨hN, rfl⟩⟩
    · have b0 : (0 : Int) ≤ (j : Int) := by omega
      have b1 : (j : Int) ≤ (t.size : Int) := by omega
      have b2 : (j : Int) + 1 ≤ (t.size : Int) := by omega
      have HN := Lib.hid hN
      have HC := Lib.hid hc
      clear hN hc
      obtain ⟨ds, h1, h2, h3, h4, h5⟩ := H.out
      have H1 := Lib.hid h1
      have H2 := Lib.hid h2
      have H4 := Lib.hid h4
      clear h1 h2 h4 H
      have hsz := h5.size
      go_wp2_with (at_builtin; refine wpList_app_str rfl (.tmp 46) (.tmp 50) rfl w.heap.size _ _ _ rfl (H4.out.alloc _) _ _ _ rfl (by rw [World.cell?_alloc_at _ _ _ _ (by simp)]; rfl) (by omega) (by simp; omega) ?_; intro v1 w2 hown1 hgrow1)
      have hb1 : Below w.heap.size w w2 := (h5.alloc hsz _).grown hgrow1 (by simp; omega) (fun j hj => (H4.out.lt j hj).1)
      go_roundg (gk - 1)
      case measure => omega
      case rel =>
        refine ⟨k + 1, t.extract (j + 1) t.size, by omega, by omega, by rw [ByteArray.size_extract]; omega, rfl, Lib.hid ⟨ds ++ [t.data.toList.take j], by simp [H1.out], ?_, ?_, ?_, hb1⟩⟩
        · rw [H2.out, sp_first c t.data.toList j HC.out HN.out, ext_data, show List.take (t.size - (j + 1)) (List.drop (j + 1) t.data.toList) = List.drop (j + 1) t.data.toList from List.take_of_length_le (by rw [List.length_drop, K.bsize]; omega)]
          simp
        · rw [ByteArray.size_extract]; omega
        · rw [List.map_append, List.map_cons, List.map_nil]
          rw [show sv (t.data.toList.take j) = .string (t.extract 0 j) from by rw [← sv_of, ext_data]; simp]
          exact hown1
    · have HN := Lib.hid hN
      obtain ⟨ds, h1, h2, h3, h4, h5⟩ := H.out
      have H1 := Lib.hid h1
      have H2 := Lib.hid h2
      have H4 := Lib.hid h4
      clear h1 h2 h4 H hN
      have hsz := h5.size
      go_wp2_with (at_builtin; refine wpList_app_str rfl (.tmp 42) (.tmp 44) rfl w.heap.size _ _ _ rfl (H4.out.alloc _) _ _ _ rfl (by rw [World.cell?_alloc_at _ _ _ _ (by simp)]; rfl) (by omega) (by simp; omega) ?_; intro v1 w2 hown1 hgrow1)
      have hb1 : Below w.heap.size w w2 := (h5.alloc hsz _).grown hgrow1 (by simp; omega) (fun j hj => (H4.out.lt j hj).1)
      go_ret
      have e2 : sp c s.data.toList = ds ++ [t.data.toList] := by rw [H2.out, sp_none c _ HN.out]
      refine ⟨v1, rfl, hb1, ?_⟩
      rw [e2, List.map_append, List.map_cons, List.map_nil, sv_of, List.length_append, List.length_singleton, H1.out]
      exact hown1
end Go.Proofs.YtocfcajafkkhdaaDoor
