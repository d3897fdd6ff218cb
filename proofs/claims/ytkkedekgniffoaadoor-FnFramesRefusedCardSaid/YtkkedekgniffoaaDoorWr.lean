/-
  Frame.Written: a frame in bytes.
-/
import Derived.Test.YtkkedekgniffoaaDoorFs
import Derived.Test.YtkkedekgniffoaaDoorBs
import Derived.Deep.AppendLies
namespace Go.Proofs.YtkkedekgniffoaaDoor
open Go.RowKit
theorem own_of {W : World} {g base : Nat} {v : Value} (h : W.heap[g]? = some (.cells #[v] 5 (0, 0))) (hb : base ≤ g) : W.ownsRow base 5 1 (.slice (some ⟨g, 0, none⟩) 1 1) 1 [v] :=
  ⟨rfl, Or.inr ⟨g, 1, #[v], rfl, hb, h, Nat.le_refl _, by unfold maxLen; omega, rfl, rfl⟩⟩
/-- three new blocks, one behind the other -/
structure Three (w X : World) (o0 o1 o2 : Obj) : Prop where
  b0 : X.heap[w.heap.size]? = some o0
  b1 : X.heap[w.heap.size + 1]? = some o1
  b2 : X.heap[w.heap.size + 1 + 1]? = some o2
  sz : X.heap.size = w.heap.size + 3
  bl : Below w.heap.size w X
theorem three_alloc (w : World) (o0 o1 o2 : Obj) : Three w (((w.alloc o0).alloc o1).alloc o2) o0 o1 o2 := by
  have s1 : (w.alloc o0).heap.size = w.heap.size + 1 := by simp
  have s2 : ((w.alloc o0).alloc o1).heap.size = w.heap.size + 1 + 1 := by simp
  refine ⟨?_, ?_, ?_, by simp, (((Below.refl _ _).alloc (Nat.le_refl _) _).alloc (by simp) _).alloc (by simp; omega) _⟩
  · exact (Below.heap_alloc _ _ _ (by omega)).trans ((Below.heap_alloc _ _ _ (by omega)).trans (K.heap_alloc_at w o0))
  · have h := K.heap_alloc_at (w.alloc o0) o1
    rw [s1] at h
    exact (Below.heap_alloc _ _ _ (by omega)).trans h
  · have h := K.heap_alloc_at ((w.alloc o0).alloc o1) o2
    rw [s2] at h
    exact h
theorem bv_of {x : Int} {c : UInt8} (h : x = (c.toNat : Int)) : Value.int .u8 x = bv c := by rw [h]; rfl
theorem key_cells (m : Nat) (h : m < 4294967296) : (#[.int .u8 ((m : Int) / 16777216), .int .u8 ((m : Int) / 65536 % 256), .int .u8 ((m : Int) / 256 % 256), .int .u8 ((m : Int) % 256)] : Array Value) = ((Fr.keyOf m).map bv).toArray := by
  have e : ∀ n : Nat, (UInt8.ofNat n).toNat = n % 256 := fun n => UInt8.toNat_ofNat'
  rw [bv_of (c := UInt8.ofNat (m / 16777216)) (by rw [e]; omega), bv_of (c := UInt8.ofNat (m / 65536)) (by rw [e]; omega), bv_of (c := UInt8.ofNat (m / 256)) (by rw [e]; omega), bv_of (c := UInt8.ofNat m) (by rw [e]; omega)]
  rfl
/-- what stands while the data are laid behind the head -/
structure WrRel (op : Nat) (fin : Bool) (mask : Nat) (s : ByteArray) (w : World) (M n k g cp : Nat) (wr : World) : Prop where
  own : wr.ownsRow (w.heap.size + 1) 5 1 (.slice (some ⟨g, 0, none⟩) n cp) n ((Fr.b0Of ⟨op, fin, s.data.toList⟩ :: (Fr.lenOf s.data.toList.length ++ Fr.keyOf mask) ++ Fr.unm (Fr.keyOf mask) 0 (s.data.toList.take k)).map bv)
  m : wr.heap[M]? = some (.cells ((Fr.keyOf mask).map bv).toArray 5 (0, 0))
  bx : wr.heap[w.heap.size]? = some (.cells #[.int .u8 op, .bool fin, .int .u32 mask, .string s] 29)
  bl : Below w.heap.size w wr
  sz : M + 1 ≤ wr.heap.size
theorem unm_step (key : List UInt8) (s : ByteArray) (k : Nat) (h : k < s.size) : Fr.unm key 0 (s.data.toList.take (k + 1)) = Fr.unm key 0 (s.data.toList.take k) ++ [s[k] ^^^ Fr.kat key k] := by
  have hl : k < s.data.toList.length := by rw [K.bsize]; exact h
  rw [List.take_succ_eq_append_getElem hl, Fr.unm_append]
  have e : 0 + (s.data.toList.take k).length = k := by rw [List.length_take]; omega
  rw [e]
  rfl
theorem key_cell (mask k : Nat) {M : Nat} {wr : World} (h : wr.heap[M]? = some (.cells ((Fr.keyOf mask).map bv).toArray 5 (0, 0))) : wr.cell? ⟨M, k % 4, none⟩ = some (.int .u8 ((Fr.kat (Fr.keyOf mask) k).toNat : Int)) := by
  unfold Fr.kat Fr.keyOf at *
  have : k % 4 = 0 ∨ k % 4 = 1 ∨ k % 4 = 2 ∨ k % 4 = 3 := by omega
  rcases this with e | e | e | e <;> simp [World.cell?, h, e, bv]
theorem WrRel.step {op mask M n k g cp g3 cp3 : Nat} {fin : Bool} {s : ByteArray} {w wr w5 : World} {z : UInt8} (h : WrRel op fin mask s w M n k g cp wr) (hst : Fr.unm (Fr.keyOf mask) 0 (s.data.toList.take (k + 1)) = Fr.unm (Fr.keyOf mask) 0 (s.data.toList.take k) ++ [z])
    (hgM : g ≠ M) (hM : w.heap.size < M) (hown : w5.ownsRow (w.heap.size + 1) 5 1 (.slice (some ⟨g3, 0, none⟩) (n + 1) cp3) (n + 1) ((Fr.b0Of ⟨op, fin, s.data.toList⟩ :: (Fr.lenOf s.data.toList.length ++ Fr.keyOf mask) ++ Fr.unm (Fr.keyOf mask) 0 (s.data.toList.take k)).map bv ++ [.int .u8 (z.toNat : Int)]))
    (hgrow : (wr.alloc (.cells #[.int .u8 (z.toNat : Int)] 5)).drew.grownBy w5 (Value.slice (some ⟨g, 0, none⟩) n cp).ownBlock) (hat : (Value.slice (some ⟨g, 0, none⟩) n cp).ownBlock = some g3 ∨ g3 = wr.heap.size + 1) :
    WrRel op fin mask s w M (n + 1) (k + 1) g3 cp3 w5 ∧ g3 ≠ M := by
  have hgb := (own_blk h.own (g := g) rfl).1
  have hsz := h.sz
  have hwl := h.bl.size
  have hsA : (wr.alloc (.cells #[.int .u8 (z.toNat : Int)] 5)).drew.heap.size = wr.heap.size + 1 := by simp
  refine ⟨⟨?_, ?_, ?_, ?_, ?_⟩, ?_⟩
  · rw [hst]
    have e : ((Fr.b0Of ⟨op, fin, s.data.toList⟩ :: (Fr.lenOf s.data.toList.length ++ Fr.keyOf mask) ++ (Fr.unm (Fr.keyOf mask) 0 (s.data.toList.take k) ++ [z])).map bv) = ((Fr.b0Of ⟨op, fin, s.data.toList⟩ :: (Fr.lenOf s.data.toList.length ++ Fr.keyOf mask) ++ Fr.unm (Fr.keyOf mask) 0 (s.data.toList.take k)).map bv ++ [.int .u8 (z.toNat : Int)]) := by simp [bv]
    rw [e]; exact hown
  · refine (hgrow.block M (by rw [hsA]; omega) (by intro e; simp [Value.ownBlock] at e; omega)).trans ?_
    exact (Below.heap_alloc _ _ _ (by omega)).trans h.m
  · refine (hgrow.block _ (by rw [hsA]; omega) (by intro e; simp [Value.ownBlock] at e; omega)).trans ?_
    exact (Below.heap_alloc _ _ _ (by omega)).trans h.bx
  · exact (Below.drew (h.bl.alloc hwl (.cells #[.int .u8 (z.toNat : Int)] 5))).grown hgrow (by rw [hsA]; omega) (by intro q hq; simp [Value.ownBlock] at hq; omega)
  · have := hgrow.size; rw [hsA] at this; omega
  · rcases hat with e | e
    · have e : g = g3 := by simpa [Value.ownBlock] using e
      omega
    · omega
theorem own_row {W : World} {base g n cp : Nat} {L : List UInt8} (h : W.ownsRow base 5 1 (.slice (some ⟨g, 0, none⟩) n cp) n (L.map bv)) : ByteRow W g L ∧ L.length = n := by
  obtain ⟨h1, h2⟩ := h
  rcases h2 with ⟨h3, _⟩ | ⟨g', cap, cur, h3, _, hg, _, _, hs, ht⟩
  · cases h3
  · cases h3
    have hl : L.length = n := by simpa using h1
    have hcl : L.length ≤ cur.size := by
      have := congrArg List.length ht
      simp at this
      omega
    refine ⟨⟨cur, (0, 0), hg, hcl, Or.inr ⟨rfl, rfl⟩, fun j c hj => ?_⟩, hl⟩
    have hjl := (List.getElem?_eq_some_iff.1 hj).1
    have h4 : (L.map bv)[j]? = some (bv c) := by simp [hj]
    rw [← ht, List.getElem?_take, if_pos (by omega)] at h4
    simpa using h4
def WrittenPost (f : Fa) (w : World) (e : Ending) (w' : World) : Prop := e = .returned (.string ⟨(Fr.written f.f0 f.mask).toArray⟩) ∧ Below w.heap.size w w'
theorem WrRel.done {op mask M n g cp : Nat} {fin : Bool} {s : ByteArray} {w wr : World} (h : WrRel op fin mask s w M n s.size g cp wr) :
    (convert 50 9 (.slice (some ⟨g, 0, none⟩) n cp)).run Tryd.prog wr = .ok (.string ⟨(Fr.written (⟨op, fin, mask, s⟩ : Fa).f0 mask).toArray⟩) wr := by
  obtain ⟨hr, hl⟩ := own_row h.own
  have hc := hr.convAt (o := 0) (n := n) (c := cp) (by omega)
  rw [hc, List.drop_zero, List.take_of_length_le (by omega), List.take_of_length_le (by rw [K.bsize]; exact Nat.le_refl _)]
  unfold Fr.written Fa.f0
  simp
theorem bits_or_b0 (op : Nat) : bits .or .u8 ((op : Int) % 16) 128 = ((op % 16 + 128 : Nat) : Int) := by
  have : ∀ n : _root_.Fin 16, bits .or .u8 ((n.val : Nat) : Int) 128 = ((n.val + 128 : Nat) : Int) := by decide +kernel
  exact this ⟨op % 16, Nat.mod_lt _ (by decide)⟩
theorem bits_or_len (n : Nat) (h : n < 126) : bits .or .u8 128 (n : Int) = ((128 + n : Nat) : Int) := by
  have : ∀ n : _root_.Fin 126, bits .or .u8 128 ((n.val : Nat) : Int) = ((128 + n.val : Nat) : Int) := by decide +kernel
  exact this ⟨n, h⟩
theorem b0_t (op : Nat) (l : List UInt8) : Value.int .u8 (bits .or .u8 ((op : Int) % 16) 128) = bv (Fr.b0Of ⟨op, true, l⟩) := by
  refine bv_of ?_
  rw [bits_or_b0, Fr.b0_nat]; rfl
theorem b0_f (op : Nat) (l : List UInt8) : Value.int .u8 ((op : Int) % 16) = bv (Fr.b0Of ⟨op, false, l⟩) := by
  refine bv_of ?_
  rw [Fr.b0_nat]; simp
theorem len_s (n : Nat) (h : n < 126) : ([.int .u8 (bits .or .u8 128 (n : Int))] : List Value) = (Fr.lenOf n).map bv := by
  rw [bits_or_len n h, bv_of (c := UInt8.ofNat (128 + n)) (by rw [show (UInt8.ofNat (128 + n)).toNat = (128 + n) % 256 from UInt8.toNat_ofNat']; omega)]
  unfold Fr.lenOf; rw [if_pos h]; rfl
theorem len_l (n : Nat) (h : ¬ n < 126) (h2 : n < 65536) : ([.int .u8 254, .int .u8 ((n : Int) / 256), .int .u8 ((n : Int) % 256)] : List Value) = (Fr.lenOf n).map bv := by
  have e : ∀ n : Nat, (UInt8.ofNat n).toNat = n % 256 := fun n => UInt8.toNat_ofNat'
  rw [bv_of (x := 254) (c := 254) rfl, bv_of (c := UInt8.ofNat (n / 256)) (by rw [e]; omega), bv_of (c := UInt8.ofNat n) (by rw [e]; omega)]
  unfold Fr.lenOf; rw [if_neg h]; rfl
theorem hd_ts (op mask : Nat) (s : ByteArray) (h : s.size < 126) (_h2 : s.size < 65536) : ([.int .u8 (bits .or .u8 ((op : Int) % 16) 128)] ++ [.int .u8 (bits .or .u8 128 (s.size : Int))] ++ (Fr.keyOf mask).map bv : List Value) = (Fr.b0Of ⟨op, true, s.data.toList⟩ :: (Fr.lenOf s.data.toList.length ++ Fr.keyOf mask)).map bv := by
  rw [b0_t op s.data.toList, len_s s.size h, K.bsize]; simp
theorem hd_fs (op mask : Nat) (s : ByteArray) (h : s.size < 126) (_h2 : s.size < 65536) : ([.int .u8 ((op : Int) % 16)] ++ [.int .u8 (bits .or .u8 128 (s.size : Int))] ++ (Fr.keyOf mask).map bv : List Value) = (Fr.b0Of ⟨op, false, s.data.toList⟩ :: (Fr.lenOf s.data.toList.length ++ Fr.keyOf mask)).map bv := by
  rw [b0_f op s.data.toList, len_s s.size h, K.bsize]; simp
theorem hd_tl (op mask : Nat) (s : ByteArray) (h : ¬ s.size < 126) (h2 : s.size < 65536) : ([.int .u8 (bits .or .u8 ((op : Int) % 16) 128)] ++ [.int .u8 254, .int .u8 ((s.size : Int) / 256), .int .u8 ((s.size : Int) % 256)] ++ (Fr.keyOf mask).map bv : List Value) = (Fr.b0Of ⟨op, true, s.data.toList⟩ :: (Fr.lenOf s.data.toList.length ++ Fr.keyOf mask)).map bv := by
  rw [b0_t op s.data.toList, len_l s.size h h2, K.bsize]; simp
theorem hd_fl (op mask : Nat) (s : ByteArray) (h : ¬ s.size < 126) (h2 : s.size < 65536) : ([.int .u8 ((op : Int) % 16)] ++ [.int .u8 254, .int .u8 ((s.size : Int) / 256), .int .u8 ((s.size : Int) % 256)] ++ (Fr.keyOf mask).map bv : List Value) = (Fr.b0Of ⟨op, false, s.data.toList⟩ :: (Fr.lenOf s.data.toList.length ++ Fr.keyOf mask)).map bv := by
  rw [b0_f op s.data.toList, len_l s.size h h2, K.bsize]; simp
set_option maxHeartbeats 8000000 in
set_option maxRecDepth 100000 in
theorem written_ts (op mask : Nat) (s : ByteArray) (w : World) (hop : op < 256) (hm : mask < 4294967296) (hs : s.size ≤ 400) (h126 : (s.size : Int) < 126) : Calls Tryd.prog 16 #[.agg #[.int .u8 op, .bool true, .int .u32 mask, .string s]] w (WrittenPost ⟨op, true, mask, s⟩ w) := by
  obtain ⟨i0, hi0, hz0, hz1, hz2⟩ := info_parts info5
  have HI := Lib.hid (And.intro hi0 (And.intro hz0 (And.intro hz1 hz2)))
  have HX := Lib.hid (three_alloc w (.cells #[.int .u8 op, .bool true, .int .u32 mask, .string s] 29) (.cells #[.int .u8 (bits .or .u8 ((op : Int) % 16) 128)] 5) (.cells #[.int .u8 (bits .or .u8 128 (s.size : Int))] 5))
  clear hi0 hz0 hz1 hz2
  go_enter Tryd.func16, Tryd.ntmps16
  go_wp2_with (at_builtin; refine Hid.out ?_)
  refine Lib.hid ?_
  generalize (((w.alloc (.cells #[.int .u8 op, .bool true, .int .u32 mask, .string s] 29)).alloc (.cells #[.int .u8 (bits .or .u8 ((op : Int) % 16) 128)] 5)).alloc (.cells #[.int .u8 (bits .or .u8 128 (s.size : Int))] 5)) = X at HX ⊢
  refine wpList_append_lies _ rfl _ _ _ rfl (w.heap.size + 1) 5 i0 _ 1 1 Tryd.underlying50 HI.out.1 HI.out.2.1 HI.out.2.2.1 HI.out.2.2.2 rfl (by omega) (.slice (some ⟨w.heap.size + 1, 0, none⟩) 1 1) 1 [.int .u8 (bits .or .u8 ((op : Int) % 16) 128)] rfl (own_of HX.out.b1 (Nat.le_refl _)) ⟨w.heap.size + 1 + 1, 0, none⟩ 1 1 [.int .u8 (bits .or .u8 128 (s.size : Int))] rfl rfl (World.news_of_block HX.out.b2) (by simp [Value.oneCell']) (by omega) (by unfold maxLen; omega) (by omega) (by rw [HX.out.sz]; omega) (w.heap.size + 3) HX.out.sz ?_
  intro g1 cp1 w3 hown1 hgrow1 hat1 hlt1
  have hg1 : g1 ≠ w.heap.size := by
    rcases hat1 with h | h
    · have h : w.heap.size + 1 = g1 := by simpa [Value.ownBlock] using h
      omega
    · omega
  have hbx : w3.heap[w.heap.size]? = some (.cells #[.int .u8 op, .bool true, .int .u32 mask, .string s] 29) := (hgrow1.block w.heap.size (by rw [HX.out.sz]; omega) (by simp [Value.ownBlock])).trans HX.out.b0
  have hb3 : Below w.heap.size w w3 := HX.out.bl.grown hgrow1 (by rw [HX.out.sz]; omega) (by intro q hq; simp [Value.ownBlock] at hq; omega)
  have hs3 : w.heap.size + 3 ≤ w3.heap.size := by have := hgrow1.size; rw [HX.out.sz] at this; exact this
  have HY := Lib.hid (And.intro hown1 (And.intro hbx hb3))
  have c2 : w3.cell? ⟨w.heap.size, 2, none⟩ = some (.int .u32 mask) := by simp [World.cell?, hbx]
  have c3 : w3.cell? ⟨w.heap.size, 3, none⟩ = some (.string s) := by simp [World.cell?, hbx]
  clear hown1 hgrow1 hbx hb3 hat1
  go_wp2_with (at_builtin; refine Hid.out ?_)
  refine Lib.hid ?_

  have HM := Lib.hid (And.intro (K.heap_alloc_at w3 (.cells #[.int .u8 ((mask : Int) / 16777216), .int .u8 ((mask : Int) / 65536 % 256), .int .u8 ((mask : Int) / 256 % 256), .int .u8 ((mask : Int) % 256)] 5)) (And.intro (HY.out.1.alloc (.cells #[.int .u8 ((mask : Int) / 16777216), .int .u8 ((mask : Int) / 65536 % 256), .int .u8 ((mask : Int) / 256 % 256), .int .u8 ((mask : Int) % 256)] 5)) (And.intro ((Below.heap_alloc w3 (.cells #[.int .u8 ((mask : Int) / 16777216), .int .u8 ((mask : Int) / 65536 % 256), .int .u8 ((mask : Int) / 256 % 256), .int .u8 ((mask : Int) % 256)] 5) w.heap.size (by omega)).trans HY.out.2.1) (HY.out.2.2.alloc (by omega) (.cells #[.int .u8 ((mask : Int) / 16777216), .int .u8 ((mask : Int) / 65536 % 256), .int .u8 ((mask : Int) / 256 % 256), .int .u8 ((mask : Int) % 256)] 5)))))
  have hs4 : (w3.alloc (.cells #[.int .u8 ((mask : Int) / 16777216), .int .u8 ((mask : Int) / 65536 % 256), .int .u8 ((mask : Int) / 256 % 256), .int .u8 ((mask : Int) % 256)] 5)).heap.size = w3.heap.size + 1 := by simp
  have HS4 := Lib.hid hs4
  clear hs4 c2 c3
  obtain ⟨M, hM⟩ : ∃ M, w3.heap.size = M := ⟨_, rfl⟩
  have HMe := Lib.hid hM
  rw [hM] at hlt1 hs3 HM HS4 ⊢
  clear hM
  generalize w3.alloc (.cells #[.int .u8 ((mask : Int) / 16777216), .int .u8 ((mask : Int) / 65536 % 256), .int .u8 ((mask : Int) / 256 % 256), .int .u8 ((mask : Int) % 256)] 5) = Y at HM HS4 ⊢
  rw [key_cells mask hm] at HM
  refine wpList_append_lies _ rfl _ _ _ rfl (w.heap.size + 1) 5 i0 _ 1 1 Tryd.underlying50 HI.out.1 HI.out.2.1 HI.out.2.2.1 HI.out.2.2.2 rfl (by omega) (.slice (some ⟨g1, 0, none⟩) 2 cp1) 2 _ rfl HM.out.2.1 ⟨M, 0, none⟩ 4 4 ((Fr.keyOf mask).map bv) rfl rfl (World.news_of_block (cs := ((Fr.keyOf mask).map bv).toArray) (t := 5) (fr := (0, 0)) HM.out.1) (by simp [Fr.keyOf, bv, Value.oneCell']) (by omega) (by unfold maxLen; omega) (by omega) (by rw [HS4.out]; omega) (M + 1) HS4.out ?_
  intro g2 cp2 w4 hown2 hgrow2 hat2 hlt2
  have hg1n : g1 ≠ M := by omega
  have hM4 : w4.heap[M]? = some (.cells ((Fr.keyOf mask).map bv).toArray 5 (0, 0)) := (hgrow2.block M (by rw [HS4.out]; omega) (by intro e; simp [Value.ownBlock] at e; omega)).trans HM.out.1
  have hbx4 : w4.heap[w.heap.size]? = some (.cells #[.int .u8 op, .bool true, .int .u32 mask, .string s] 29) := (hgrow2.block _ (by rw [HS4.out]; omega) (by intro e; simp [Value.ownBlock] at e; omega)).trans HM.out.2.2.1
  have hb4 : Below w.heap.size w w4 := HM.out.2.2.2.grown hgrow2 (by rw [HS4.out]; omega) (by intro q hq; simp [Value.ownBlock] at hq; have := HY.out.1; have h := own_blk this (g := g1) rfl; omega)
  have hg2 : g2 ≠ M := by
    rcases hat2 with h | h
    · have h : g1 = g2 := by simpa [Value.ownBlock] using h
      omega
    · omega
  have hs4 : M + 1 ≤ w4.heap.size := by have := hgrow2.size; rw [HS4.out] at this; exact this
  have hhd : ([.int .u8 (bits .or .u8 ((op : Int) % 16) 128)] ++ [.int .u8 (bits .or .u8 128 (s.size : Int))] ++ (Fr.keyOf mask).map bv : List Value) = (Fr.b0Of ⟨op, true, s.data.toList⟩ :: (Fr.lenOf s.data.toList.length ++ Fr.keyOf mask)).map bv := hd_ts op mask s (by omega) (by omega)
  rw [hhd] at hown2
  have HW4 := Lib.hid (And.intro hown2 (And.intro hM4 (And.intro hbx4 hb4)))
  clear hown2 hM4 hbx4 hb4 hgrow2 hhd hat2
  go_wp2_with fail
  go_loopw [3, 6] (fun bvv i wr => ∃ (k g cp : Nat), k ≤ s.size ∧ i = .int .i64 k ∧ bvv = .slice (some ⟨g, 0, none⟩) (6 + k) cp ∧ g ≠ M ∧ Hid (WrRel op true mask s w M (6 + k) k g cp wr)) (fun _ i _ => s.size - (intOf i).toNat)
  case atStart => exact ⟨0, g2, cp2, by omega, rfl, rfl, hg2, Lib.hid ⟨by simpa [Fr.unm] using HW4.out.1, HW4.out.2.1, HW4.out.2.2.1, HW4.out.2.2.2, hs4⟩⟩
  case round =>
    obtain ⟨k, g, cp, hk, rfl, rfl, hgM, HR⟩ := hrel
    by_cases hlt : k < s.size
    · have hk1 : (k : Int) < (s.size : Int) := by omega
      have hk0 : (0 : Int) ≤ (k : Int) := by omega
      have htm : (k : Int).tmod 4 = ((k % 4 : Nat) : Int) := by rw [Int.tmod_eq_emod_of_nonneg hk0]; omega
      have hm0 : (0 : Int) ≤ (k : Int).tmod 4 := by omega
      have hm4 : (k : Int).tmod 4 < 4 := by omega
      have hmn : ((k : Int).tmod 4).toNat = k % 4 := by omega
      clear htm
      have c3 : wr.cell? ⟨w.heap.size, 3, none⟩ = some (.string s) := by have h := HR.out.bx; simp [World.cell?, h]
      have cm : wr.cell? ⟨M, k % 4, none⟩ = some (.int .u8 ((Fr.kat (Fr.keyOf mask) k).toNat : Int)) := key_cell mask k HR.out.m
      have hxor := xor8 s[k] (Fr.kat (Fr.keyOf mask) k)
      have hst := unm_step (Fr.keyOf mask) s k hlt
      generalize Fr.kat (Fr.keyOf mask) k = q at cm hxor hst
      generalize hz : s[k] ^^^ q = z at hxor hst
      have HST := Lib.hid hst
      clear hst hz
      have hsz : wr.heap.size + 1 ≤ 140737488355328 ∨ True := Or.inr trivial
      clear hsz
      go_wp2_with fail
      go_region_law ((refine step_append_lies _ (by rfl) _ _ _ (by rfl) (w.heap.size + 1) 5 i0 (.int .u8 0) 1 1 Tryd.underlying50 HI.out.1 HI.out.2.1 HI.out.2.2.1 HI.out.2.2.2 rfl (by decide) _ (6 + k) _ (by rfl) ((HR.out.own.alloc _).drew) ⟨wr.heap.size, 0, none⟩ 1 1 [.int .u8 z.toNat] (by rfl) (by rfl) (World.news_of_block (cs := #[.int .u8 z.toNat]) (t := 5) (fr := (0, 0)) (heap_alloc_new wr _)) (by intro u hu; simp at hu; subst hu; rfl) (by omega) (by unfold maxLen; omega) (by omega) (by have := HR.out.sz; simp; omega) (wr.heap.size + 1) (by simp) ?_; intro g3 cp3 w5 hown3 hgrow3 hat3 hlt3))
      all_goals
        have HS := Lib.hid (HR.out.step HST.out hgM (by omega) hown3 hgrow3 hat3)
        have hs5 := HS.out.2
        clear hown3 hgrow3 hat3
        go_wp2_with fail
        go_roundw
        case rel => exact ⟨k + 1, g3, cp3, by omega, by go_num, rfl, hs5, Lib.hid HS.out.1⟩
        case measure => simp [intOf]; omega
    · obtain rfl : k = s.size := by omega
      have hcv := HR.out.done
      have hbl := HR.out.bl
      have HBL := Lib.hid hbl
      clear hbl
      go_wp2_with fail
      go_ret
      exact ⟨rfl, HBL.out⟩

set_option maxHeartbeats 8000000 in
set_option maxRecDepth 100000 in
theorem written_tl (op mask : Nat) (s : ByteArray) (w : World) (hop : op < 256) (hm : mask < 4294967296) (hs : s.size ≤ 400) (h126 : ¬ (s.size : Int) < 126) (h655 : (s.size : Int) < 65536) : Calls Tryd.prog 16 #[.agg #[.int .u8 op, .bool true, .int .u32 mask, .string s]] w (WrittenPost ⟨op, true, mask, s⟩ w) := by
  obtain ⟨i0, hi0, hz0, hz1, hz2⟩ := info_parts info5
  have HI := Lib.hid (And.intro hi0 (And.intro hz0 (And.intro hz1 hz2)))
  have HX := Lib.hid (three_alloc w (.cells #[.int .u8 op, .bool true, .int .u32 mask, .string s] 29) (.cells #[.int .u8 (bits .or .u8 ((op : Int) % 16) 128)] 5) (.cells #[.int .u8 254, .int .u8 ((s.size : Int) / 256), .int .u8 ((s.size : Int) % 256)] 5))
  clear hi0 hz0 hz1 hz2
  go_enter Tryd.func16, Tryd.ntmps16
  go_wp2_with (at_builtin; refine Hid.out ?_)
  refine Lib.hid ?_
  generalize (((w.alloc (.cells #[.int .u8 op, .bool true, .int .u32 mask, .string s] 29)).alloc (.cells #[.int .u8 (bits .or .u8 ((op : Int) % 16) 128)] 5)).alloc (.cells #[.int .u8 254, .int .u8 ((s.size : Int) / 256), .int .u8 ((s.size : Int) % 256)] 5)) = X at HX ⊢
  refine wpList_append_lies _ rfl _ _ _ rfl (w.heap.size + 1) 5 i0 _ 1 1 Tryd.underlying50 HI.out.1 HI.out.2.1 HI.out.2.2.1 HI.out.2.2.2 rfl (by omega) (.slice (some ⟨w.heap.size + 1, 0, none⟩) 1 1) 1 [.int .u8 (bits .or .u8 ((op : Int) % 16) 128)] rfl (own_of HX.out.b1 (Nat.le_refl _)) ⟨w.heap.size + 1 + 1, 0, none⟩ 3 3 [.int .u8 254, .int .u8 ((s.size : Int) / 256), .int .u8 ((s.size : Int) % 256)] rfl rfl (World.news_of_block HX.out.b2) (by simp [Value.oneCell']) (by omega) (by unfold maxLen; omega) (by omega) (by rw [HX.out.sz]; omega) (w.heap.size + 3) HX.out.sz ?_
  intro g1 cp1 w3 hown1 hgrow1 hat1 hlt1
  have hg1 : g1 ≠ w.heap.size := by
    rcases hat1 with h | h
    · have h : w.heap.size + 1 = g1 := by simpa [Value.ownBlock] using h
      omega
    · omega
  have hbx : w3.heap[w.heap.size]? = some (.cells #[.int .u8 op, .bool true, .int .u32 mask, .string s] 29) := (hgrow1.block w.heap.size (by rw [HX.out.sz]; omega) (by simp [Value.ownBlock])).trans HX.out.b0
  have hb3 : Below w.heap.size w w3 := HX.out.bl.grown hgrow1 (by rw [HX.out.sz]; omega) (by intro q hq; simp [Value.ownBlock] at hq; omega)
  have hs3 : w.heap.size + 3 ≤ w3.heap.size := by have := hgrow1.size; rw [HX.out.sz] at this; exact this
  have HY := Lib.hid (And.intro hown1 (And.intro hbx hb3))
  have c2 : w3.cell? ⟨w.heap.size, 2, none⟩ = some (.int .u32 mask) := by simp [World.cell?, hbx]
  have c3 : w3.cell? ⟨w.heap.size, 3, none⟩ = some (.string s) := by simp [World.cell?, hbx]
  clear hown1 hgrow1 hbx hb3 hat1
  go_wp2_with (at_builtin; refine Hid.out ?_)
  refine Lib.hid ?_

  have HM := Lib.hid (And.intro (K.heap_alloc_at w3 (.cells #[.int .u8 ((mask : Int) / 16777216), .int .u8 ((mask : Int) / 65536 % 256), .int .u8 ((mask : Int) / 256 % 256), .int .u8 ((mask : Int) % 256)] 5)) (And.intro (HY.out.1.alloc (.cells #[.int .u8 ((mask : Int) / 16777216), .int .u8 ((mask : Int) / 65536 % 256), .int .u8 ((mask : Int) / 256 % 256), .int .u8 ((mask : Int) % 256)] 5)) (And.intro ((Below.heap_alloc w3 (.cells #[.int .u8 ((mask : Int) / 16777216), .int .u8 ((mask : Int) / 65536 % 256), .int .u8 ((mask : Int) / 256 % 256), .int .u8 ((mask : Int) % 256)] 5) w.heap.size (by omega)).trans HY.out.2.1) (HY.out.2.2.alloc (by omega) (.cells #[.int .u8 ((mask : Int) / 16777216), .int .u8 ((mask : Int) / 65536 % 256), .int .u8 ((mask : Int) / 256 % 256), .int .u8 ((mask : Int) % 256)] 5)))))
  have hs4 : (w3.alloc (.cells #[.int .u8 ((mask : Int) / 16777216), .int .u8 ((mask : Int) / 65536 % 256), .int .u8 ((mask : Int) / 256 % 256), .int .u8 ((mask : Int) % 256)] 5)).heap.size = w3.heap.size + 1 := by simp
  have HS4 := Lib.hid hs4
  clear hs4 c2 c3
  obtain ⟨M, hM⟩ : ∃ M, w3.heap.size = M := ⟨_, rfl⟩
  have HMe := Lib.hid hM
  rw [hM] at hlt1 hs3 HM HS4 ⊢
  clear hM
  generalize w3.alloc (.cells #[.int .u8 ((mask : Int) / 16777216), .int .u8 ((mask : Int) / 65536 % 256), .int .u8 ((mask : Int) / 256 % 256), .int .u8 ((mask : Int) % 256)] 5) = Y at HM HS4 ⊢
  rw [key_cells mask hm] at HM
  refine wpList_append_lies _ rfl _ _ _ rfl (w.heap.size + 1) 5 i0 _ 1 1 Tryd.underlying50 HI.out.1 HI.out.2.1 HI.out.2.2.1 HI.out.2.2.2 rfl (by omega) (.slice (some ⟨g1, 0, none⟩) 4 cp1) 4 _ rfl HM.out.2.1 ⟨M, 0, none⟩ 4 4 ((Fr.keyOf mask).map bv) rfl rfl (World.news_of_block (cs := ((Fr.keyOf mask).map bv).toArray) (t := 5) (fr := (0, 0)) HM.out.1) (by simp [Fr.keyOf, bv, Value.oneCell']) (by omega) (by unfold maxLen; omega) (by omega) (by rw [HS4.out]; omega) (M + 1) HS4.out ?_
  intro g2 cp2 w4 hown2 hgrow2 hat2 hlt2
  have hg1n : g1 ≠ M := by omega
  have hM4 : w4.heap[M]? = some (.cells ((Fr.keyOf mask).map bv).toArray 5 (0, 0)) := (hgrow2.block M (by rw [HS4.out]; omega) (by intro e; simp [Value.ownBlock] at e; omega)).trans HM.out.1
  have hbx4 : w4.heap[w.heap.size]? = some (.cells #[.int .u8 op, .bool true, .int .u32 mask, .string s] 29) := (hgrow2.block _ (by rw [HS4.out]; omega) (by intro e; simp [Value.ownBlock] at e; omega)).trans HM.out.2.2.1
  have hb4 : Below w.heap.size w w4 := HM.out.2.2.2.grown hgrow2 (by rw [HS4.out]; omega) (by intro q hq; simp [Value.ownBlock] at hq; have := HY.out.1; have h := own_blk this (g := g1) rfl; omega)
  have hg2 : g2 ≠ M := by
    rcases hat2 with h | h
    · have h : g1 = g2 := by simpa [Value.ownBlock] using h
      omega
    · omega
  have hs4 : M + 1 ≤ w4.heap.size := by have := hgrow2.size; rw [HS4.out] at this; exact this
  have hhd : ([.int .u8 (bits .or .u8 ((op : Int) % 16) 128)] ++ [.int .u8 254, .int .u8 ((s.size : Int) / 256), .int .u8 ((s.size : Int) % 256)] ++ (Fr.keyOf mask).map bv : List Value) = (Fr.b0Of ⟨op, true, s.data.toList⟩ :: (Fr.lenOf s.data.toList.length ++ Fr.keyOf mask)).map bv := hd_tl op mask s (by omega) (by omega)
  rw [hhd] at hown2
  have HW4 := Lib.hid (And.intro hown2 (And.intro hM4 (And.intro hbx4 hb4)))
  clear hown2 hM4 hbx4 hb4 hgrow2 hhd hat2
  go_wp2_with fail
  go_loopw [3, 6] (fun bvv i wr => ∃ (k g cp : Nat), k ≤ s.size ∧ i = .int .i64 k ∧ bvv = .slice (some ⟨g, 0, none⟩) (8 + k) cp ∧ g ≠ M ∧ Hid (WrRel op true mask s w M (8 + k) k g cp wr)) (fun _ i _ => s.size - (intOf i).toNat)
  case atStart => exact ⟨0, g2, cp2, by omega, rfl, rfl, hg2, Lib.hid ⟨by simpa [Fr.unm] using HW4.out.1, HW4.out.2.1, HW4.out.2.2.1, HW4.out.2.2.2, hs4⟩⟩
  case round =>
    obtain ⟨k, g, cp, hk, rfl, rfl, hgM, HR⟩ := hrel
    by_cases hlt : k < s.size
    · have hk1 : (k : Int) < (s.size : Int) := by omega
      have hk0 : (0 : Int) ≤ (k : Int) := by omega
      have htm : (k : Int).tmod 4 = ((k % 4 : Nat) : Int) := by rw [Int.tmod_eq_emod_of_nonneg hk0]; omega
      have hm0 : (0 : Int) ≤ (k : Int).tmod 4 := by omega
      have hm4 : (k : Int).tmod 4 < 4 := by omega
      have hmn : ((k : Int).tmod 4).toNat = k % 4 := by omega
      clear htm
      have c3 : wr.cell? ⟨w.heap.size, 3, none⟩ = some (.string s) := by have h := HR.out.bx; simp [World.cell?, h]
      have cm : wr.cell? ⟨M, k % 4, none⟩ = some (.int .u8 ((Fr.kat (Fr.keyOf mask) k).toNat : Int)) := key_cell mask k HR.out.m
      have hxor := xor8 s[k] (Fr.kat (Fr.keyOf mask) k)
      have hst := unm_step (Fr.keyOf mask) s k hlt
      generalize Fr.kat (Fr.keyOf mask) k = q at cm hxor hst
      generalize hz : s[k] ^^^ q = z at hxor hst
      have HST := Lib.hid hst
      clear hst hz
      have hsz : wr.heap.size + 1 ≤ 140737488355328 ∨ True := Or.inr trivial
      clear hsz
      go_wp2_with fail
      go_region_law ((refine step_append_lies _ (by rfl) _ _ _ (by rfl) (w.heap.size + 1) 5 i0 (.int .u8 0) 1 1 Tryd.underlying50 HI.out.1 HI.out.2.1 HI.out.2.2.1 HI.out.2.2.2 rfl (by decide) _ (8 + k) _ (by rfl) ((HR.out.own.alloc _).drew) ⟨wr.heap.size, 0, none⟩ 1 1 [.int .u8 z.toNat] (by rfl) (by rfl) (World.news_of_block (cs := #[.int .u8 z.toNat]) (t := 5) (fr := (0, 0)) (heap_alloc_new wr _)) (by intro u hu; simp at hu; subst hu; rfl) (by omega) (by unfold maxLen; omega) (by omega) (by have := HR.out.sz; simp; omega) (wr.heap.size + 1) (by simp) ?_; intro g3 cp3 w5 hown3 hgrow3 hat3 hlt3))
      all_goals
        have HS := Lib.hid (HR.out.step HST.out hgM (by omega) hown3 hgrow3 hat3)
        have hs5 := HS.out.2
        clear hown3 hgrow3 hat3
        go_wp2_with fail
        go_roundw
        case rel => exact ⟨k + 1, g3, cp3, by omega, by go_num, rfl, hs5, Lib.hid HS.out.1⟩
        case measure => simp [intOf]; omega
    · obtain rfl : k = s.size := by omega
      have hcv := HR.out.done
      have hbl := HR.out.bl
      have HBL := Lib.hid hbl
      clear hbl
      go_wp2_with fail
      go_ret
      exact ⟨rfl, HBL.out⟩

set_option maxHeartbeats 8000000 in
set_option maxRecDepth 100000 in
theorem written_fs (op mask : Nat) (s : ByteArray) (w : World) (hop : op < 256) (hm : mask < 4294967296) (hs : s.size ≤ 400) (h126 : (s.size : Int) < 126) : Calls Tryd.prog 16 #[.agg #[.int .u8 op, .bool false, .int .u32 mask, .string s]] w (WrittenPost ⟨op, false, mask, s⟩ w) := by
  obtain ⟨i0, hi0, hz0, hz1, hz2⟩ := info_parts info5
  have HI := Lib.hid (And.intro hi0 (And.intro hz0 (And.intro hz1 hz2)))
  have HX := Lib.hid (three_alloc w (.cells #[.int .u8 op, .bool false, .int .u32 mask, .string s] 29) (.cells #[.int .u8 ((op : Int) % 16)] 5) (.cells #[.int .u8 (bits .or .u8 128 (s.size : Int))] 5))
  clear hi0 hz0 hz1 hz2
  go_enter Tryd.func16, Tryd.ntmps16
  go_wp2_with (at_builtin; refine Hid.out ?_)
  refine Lib.hid ?_
  generalize (((w.alloc (.cells #[.int .u8 op, .bool false, .int .u32 mask, .string s] 29)).alloc (.cells #[.int .u8 ((op : Int) % 16)] 5)).alloc (.cells #[.int .u8 (bits .or .u8 128 (s.size : Int))] 5)) = X at HX ⊢
  refine wpList_append_lies _ rfl _ _ _ rfl (w.heap.size + 1) 5 i0 _ 1 1 Tryd.underlying50 HI.out.1 HI.out.2.1 HI.out.2.2.1 HI.out.2.2.2 rfl (by omega) (.slice (some ⟨w.heap.size + 1, 0, none⟩) 1 1) 1 [.int .u8 ((op : Int) % 16)] rfl (own_of HX.out.b1 (Nat.le_refl _)) ⟨w.heap.size + 1 + 1, 0, none⟩ 1 1 [.int .u8 (bits .or .u8 128 (s.size : Int))] rfl rfl (World.news_of_block HX.out.b2) (by simp [Value.oneCell']) (by omega) (by unfold maxLen; omega) (by omega) (by rw [HX.out.sz]; omega) (w.heap.size + 3) HX.out.sz ?_
  intro g1 cp1 w3 hown1 hgrow1 hat1 hlt1
  have hg1 : g1 ≠ w.heap.size := by
    rcases hat1 with h | h
    · have h : w.heap.size + 1 = g1 := by simpa [Value.ownBlock] using h
      omega
    · omega
  have hbx : w3.heap[w.heap.size]? = some (.cells #[.int .u8 op, .bool false, .int .u32 mask, .string s] 29) := (hgrow1.block w.heap.size (by rw [HX.out.sz]; omega) (by simp [Value.ownBlock])).trans HX.out.b0
  have hb3 : Below w.heap.size w w3 := HX.out.bl.grown hgrow1 (by rw [HX.out.sz]; omega) (by intro q hq; simp [Value.ownBlock] at hq; omega)
  have hs3 : w.heap.size + 3 ≤ w3.heap.size := by have := hgrow1.size; rw [HX.out.sz] at this; exact this
  have HY := Lib.hid (And.intro hown1 (And.intro hbx hb3))
  have c2 : w3.cell? ⟨w.heap.size, 2, none⟩ = some (.int .u32 mask) := by simp [World.cell?, hbx]
  have c3 : w3.cell? ⟨w.heap.size, 3, none⟩ = some (.string s) := by simp [World.cell?, hbx]
  clear hown1 hgrow1 hbx hb3 hat1
  go_wp2_with (at_builtin; refine Hid.out ?_)
  refine Lib.hid ?_

  have HM := Lib.hid (And.intro (K.heap_alloc_at w3 (.cells #[.int .u8 ((mask : Int) / 16777216), .int .u8 ((mask : Int) / 65536 % 256), .int .u8 ((mask : Int) / 256 % 256), .int .u8 ((mask : Int) % 256)] 5)) (And.intro (HY.out.1.alloc (.cells #[.int .u8 ((mask : Int) / 16777216), .int .u8 ((mask : Int) / 65536 % 256), .int .u8 ((mask : Int) / 256 % 256), .int .u8 ((mask : Int) % 256)] 5)) (And.intro ((Below.heap_alloc w3 (.cells #[.int .u8 ((mask : Int) / 16777216), .int .u8 ((mask : Int) / 65536 % 256), .int .u8 ((mask : Int) / 256 % 256), .int .u8 ((mask : Int) % 256)] 5) w.heap.size (by omega)).trans HY.out.2.1) (HY.out.2.2.alloc (by omega) (.cells #[.int .u8 ((mask : Int) / 16777216), .int .u8 ((mask : Int) / 65536 % 256), .int .u8 ((mask : Int) / 256 % 256), .int .u8 ((mask : Int) % 256)] 5)))))
  have hs4 : (w3.alloc (.cells #[.int .u8 ((mask : Int) / 16777216), .int .u8 ((mask : Int) / 65536 % 256), .int .u8 ((mask : Int) / 256 % 256), .int .u8 ((mask : Int) % 256)] 5)).heap.size = w3.heap.size + 1 := by simp
  have HS4 := Lib.hid hs4
  clear hs4 c2 c3
  obtain ⟨M, hM⟩ : ∃ M, w3.heap.size = M := ⟨_, rfl⟩
  have HMe := Lib.hid hM
  rw [hM] at hlt1 hs3 HM HS4 ⊢
  clear hM
  generalize w3.alloc (.cells #[.int .u8 ((mask : Int) / 16777216), .int .u8 ((mask : Int) / 65536 % 256), .int .u8 ((mask : Int) / 256 % 256), .int .u8 ((mask : Int) % 256)] 5) = Y at HM HS4 ⊢
  rw [key_cells mask hm] at HM
  refine wpList_append_lies _ rfl _ _ _ rfl (w.heap.size + 1) 5 i0 _ 1 1 Tryd.underlying50 HI.out.1 HI.out.2.1 HI.out.2.2.1 HI.out.2.2.2 rfl (by omega) (.slice (some ⟨g1, 0, none⟩) 2 cp1) 2 _ rfl HM.out.2.1 ⟨M, 0, none⟩ 4 4 ((Fr.keyOf mask).map bv) rfl rfl (World.news_of_block (cs := ((Fr.keyOf mask).map bv).toArray) (t := 5) (fr := (0, 0)) HM.out.1) (by simp [Fr.keyOf, bv, Value.oneCell']) (by omega) (by unfold maxLen; omega) (by omega) (by rw [HS4.out]; omega) (M + 1) HS4.out ?_
  intro g2 cp2 w4 hown2 hgrow2 hat2 hlt2
  have hg1n : g1 ≠ M := by omega
  have hM4 : w4.heap[M]? = some (.cells ((Fr.keyOf mask).map bv).toArray 5 (0, 0)) := (hgrow2.block M (by rw [HS4.out]; omega) (by intro e; simp [Value.ownBlock] at e; omega)).trans HM.out.1
  have hbx4 : w4.heap[w.heap.size]? = some (.cells #[.int .u8 op, .bool false, .int .u32 mask, .string s] 29) := (hgrow2.block _ (by rw [HS4.out]; omega) (by intro e; simp [Value.ownBlock] at e; omega)).trans HM.out.2.2.1
  have hb4 : Below w.heap.size w w4 := HM.out.2.2.2.grown hgrow2 (by rw [HS4.out]; omega) (by intro q hq; simp [Value.ownBlock] at hq; have := HY.out.1; have h := own_blk this (g := g1) rfl; omega)
  have hg2 : g2 ≠ M := by
    rcases hat2 with h | h
    · have h : g1 = g2 := by simpa [Value.ownBlock] using h
      omega
    · omega
  have hs4 : M + 1 ≤ w4.heap.size := by have := hgrow2.size; rw [HS4.out] at this; exact this
  have hhd : ([.int .u8 ((op : Int) % 16)] ++ [.int .u8 (bits .or .u8 128 (s.size : Int))] ++ (Fr.keyOf mask).map bv : List Value) = (Fr.b0Of ⟨op, false, s.data.toList⟩ :: (Fr.lenOf s.data.toList.length ++ Fr.keyOf mask)).map bv := hd_fs op mask s (by omega) (by omega)
  rw [hhd] at hown2
  have HW4 := Lib.hid (And.intro hown2 (And.intro hM4 (And.intro hbx4 hb4)))
  clear hown2 hM4 hbx4 hb4 hgrow2 hhd hat2
  go_wp2_with fail
  go_loopw [3, 6] (fun bvv i wr => ∃ (k g cp : Nat), k ≤ s.size ∧ i = .int .i64 k ∧ bvv = .slice (some ⟨g, 0, none⟩) (6 + k) cp ∧ g ≠ M ∧ Hid (WrRel op false mask s w M (6 + k) k g cp wr)) (fun _ i _ => s.size - (intOf i).toNat)
  case atStart => exact ⟨0, g2, cp2, by omega, rfl, rfl, hg2, Lib.hid ⟨by simpa [Fr.unm] using HW4.out.1, HW4.out.2.1, HW4.out.2.2.1, HW4.out.2.2.2, hs4⟩⟩
  case round =>
    obtain ⟨k, g, cp, hk, rfl, rfl, hgM, HR⟩ := hrel
    by_cases hlt : k < s.size
    · have hk1 : (k : Int) < (s.size : Int) := by omega
      have hk0 : (0 : Int) ≤ (k : Int) := by omega
      have htm : (k : Int).tmod 4 = ((k % 4 : Nat) : Int) := by rw [Int.tmod_eq_emod_of_nonneg hk0]; omega
      have hm0 : (0 : Int) ≤ (k : Int).tmod 4 := by omega
      have hm4 : (k : Int).tmod 4 < 4 := by omega
      have hmn : ((k : Int).tmod 4).toNat = k % 4 := by omega
      clear htm
      have c3 : wr.cell? ⟨w.heap.size, 3, none⟩ = some (.string s) := by have h := HR.out.bx; simp [World.cell?, h]
      have cm : wr.cell? ⟨M, k % 4, none⟩ = some (.int .u8 ((Fr.kat (Fr.keyOf mask) k).toNat : Int)) := key_cell mask k HR.out.m
      have hxor := xor8 s[k] (Fr.kat (Fr.keyOf mask) k)
      have hst := unm_step (Fr.keyOf mask) s k hlt
      generalize Fr.kat (Fr.keyOf mask) k = q at cm hxor hst
      generalize hz : s[k] ^^^ q = z at hxor hst
      have HST := Lib.hid hst
      clear hst hz
      have hsz : wr.heap.size + 1 ≤ 140737488355328 ∨ True := Or.inr trivial
      clear hsz
      go_wp2_with fail
      go_region_law ((refine step_append_lies _ (by rfl) _ _ _ (by rfl) (w.heap.size + 1) 5 i0 (.int .u8 0) 1 1 Tryd.underlying50 HI.out.1 HI.out.2.1 HI.out.2.2.1 HI.out.2.2.2 rfl (by decide) _ (6 + k) _ (by rfl) ((HR.out.own.alloc _).drew) ⟨wr.heap.size, 0, none⟩ 1 1 [.int .u8 z.toNat] (by rfl) (by rfl) (World.news_of_block (cs := #[.int .u8 z.toNat]) (t := 5) (fr := (0, 0)) (heap_alloc_new wr _)) (by intro u hu; simp at hu; subst hu; rfl) (by omega) (by unfold maxLen; omega) (by omega) (by have := HR.out.sz; simp; omega) (wr.heap.size + 1) (by simp) ?_; intro g3 cp3 w5 hown3 hgrow3 hat3 hlt3))
      all_goals
        have HS := Lib.hid (HR.out.step HST.out hgM (by omega) hown3 hgrow3 hat3)
        have hs5 := HS.out.2
        clear hown3 hgrow3 hat3
        go_wp2_with fail
        go_roundw
        case rel => exact ⟨k + 1, g3, cp3, by omega, by go_num, rfl, hs5, Lib.hid HS.out.1⟩
        case measure => simp [intOf]; omega
    · obtain rfl : k = s.size := by omega
      have hcv := HR.out.done
      have hbl := HR.out.bl
      have HBL := Lib.hid hbl
      clear hbl
      go_wp2_with fail
      go_ret
      exact ⟨rfl, HBL.out⟩

set_option maxHeartbeats 8000000 in
set_option maxRecDepth 100000 in
theorem written_fl (op mask : Nat) (s : ByteArray) (w : World) (hop : op < 256) (hm : mask < 4294967296) (hs : s.size ≤ 400) (h126 : ¬ (s.size : Int) < 126) (h655 : (s.size : Int) < 65536) : Calls Tryd.prog 16 #[.agg #[.int .u8 op, .bool false, .int .u32 mask, .string s]] w (WrittenPost ⟨op, false, mask, s⟩ w) := by
  obtain ⟨i0, hi0, hz0, hz1, hz2⟩ := info_parts info5
  have HI := Lib.hid (And.intro hi0 (And.intro hz0 (And.intro hz1 hz2)))
  have HX := Lib.hid (three_alloc w (.cells #[.int .u8 op, .bool false, .int .u32 mask, .string s] 29) (.cells #[.int .u8 ((op : Int) % 16)] 5) (.cells #[.int .u8 254, .int .u8 ((s.size : Int) / 256), .int .u8 ((s.size : Int) % 256)] 5))
  clear hi0 hz0 hz1 hz2
  go_enter Tryd.func16, Tryd.ntmps16
  go_wp2_with (at_builtin; refine Hid.out ?_)
  refine Lib.hid ?_
  generalize (((w.alloc (.cells #[.int .u8 op, .bool false, .int .u32 mask, .string s] 29)).alloc (.cells #[.int .u8 ((op : Int) % 16)] 5)).alloc (.cells #[.int .u8 254, .int .u8 ((s.size : Int) / 256), .int .u8 ((s.size : Int) % 256)] 5)) = X at HX ⊢
  refine wpList_append_lies _ rfl _ _ _ rfl (w.heap.size + 1) 5 i0 _ 1 1 Tryd.underlying50 HI.out.1 HI.out.2.1 HI.out.2.2.1 HI.out.2.2.2 rfl (by omega) (.slice (some ⟨w.heap.size + 1, 0, none⟩) 1 1) 1 [.int .u8 ((op : Int) % 16)] rfl (own_of HX.out.b1 (Nat.le_refl _)) ⟨w.heap.size + 1 + 1, 0, none⟩ 3 3 [.int .u8 254, .int .u8 ((s.size : Int) / 256), .int .u8 ((s.size : Int) % 256)] rfl rfl (World.news_of_block HX.out.b2) (by simp [Value.oneCell']) (by omega) (by unfold maxLen; omega) (by omega) (by rw [HX.out.sz]; omega) (w.heap.size + 3) HX.out.sz ?_
  intro g1 cp1 w3 hown1 hgrow1 hat1 hlt1
  have hg1 : g1 ≠ w.heap.size := by
    rcases hat1 with h | h
    · have h : w.heap.size + 1 = g1 := by simpa [Value.ownBlock] using h
      omega
    · omega
  have hbx : w3.heap[w.heap.size]? = some (.cells #[.int .u8 op, .bool false, .int .u32 mask, .string s] 29) := (hgrow1.block w.heap.size (by rw [HX.out.sz]; omega) (by simp [Value.ownBlock])).trans HX.out.b0
  have hb3 : Below w.heap.size w w3 := HX.out.bl.grown hgrow1 (by rw [HX.out.sz]; omega) (by intro q hq; simp [Value.ownBlock] at hq; omega)
  have hs3 : w.heap.size + 3 ≤ w3.heap.size := by have := hgrow1.size; rw [HX.out.sz] at this; exact this
  have HY := Lib.hid (And.intro hown1 (And.intro hbx hb3))
  have c2 : w3.cell? ⟨w.heap.size, 2, none⟩ = some (.int .u32 mask) := by simp [World.cell?, hbx]
  have c3 : w3.cell? ⟨w.heap.size, 3, none⟩ = some (.string s) := by simp [World.cell?, hbx]
  clear hown1 hgrow1 hbx hb3 hat1
  go_wp2_with (at_builtin; refine Hid.out ?_)
  refine Lib.hid ?_

  have HM := Lib.hid (And.intro (K.heap_alloc_at w3 (.cells #[.int .u8 ((mask : Int) / 16777216), .int .u8 ((mask : Int) / 65536 % 256), .int .u8 ((mask : Int) / 256 % 256), .int .u8 ((mask : Int) % 256)] 5)) (And.intro (HY.out.1.alloc (.cells #[.int .u8 ((mask : Int) / 16777216), .int .u8 ((mask : Int) / 65536 % 256), .int .u8 ((mask : Int) / 256 % 256), .int .u8 ((mask : Int) % 256)] 5)) (And.intro ((Below.heap_alloc w3 (.cells #[.int .u8 ((mask : Int) / 16777216), .int .u8 ((mask : Int) / 65536 % 256), .int .u8 ((mask : Int) / 256 % 256), .int .u8 ((mask : Int) % 256)] 5) w.heap.size (by omega)).trans HY.out.2.1) (HY.out.2.2.alloc (by omega) (.cells #[.int .u8 ((mask : Int) / 16777216), .int .u8 ((mask : Int) / 65536 % 256), .int .u8 ((mask : Int) / 256 % 256), .int .u8 ((mask : Int) % 256)] 5)))))
  have hs4 : (w3.alloc (.cells #[.int .u8 ((mask : Int) / 16777216), .int .u8 ((mask : Int) / 65536 % 256), .int .u8 ((mask : Int) / 256 % 256), .int .u8 ((mask : Int) % 256)] 5)).heap.size = w3.heap.size + 1 := by simp
  have HS4 := Lib.hid hs4
  clear hs4 c2 c3
  obtain ⟨M, hM⟩ : ∃ M, w3.heap.size = M := ⟨_, rfl⟩
  have HMe := Lib.hid hM
  rw [hM] at hlt1 hs3 HM HS4 ⊢
  clear hM
  generalize w3.alloc (.cells #[.int .u8 ((mask : Int) / 16777216), .int .u8 ((mask : Int) / 65536 % 256), .int .u8 ((mask : Int) / 256 % 256), .int .u8 ((mask : Int) % 256)] 5) = Y at HM HS4 ⊢
  rw [key_cells mask hm] at HM
  refine wpList_append_lies _ rfl _ _ _ rfl (w.heap.size + 1) 5 i0 _ 1 1 Tryd.underlying50 HI.out.1 HI.out.2.1 HI.out.2.2.1 HI.out.2.2.2 rfl (by omega) (.slice (some ⟨g1, 0, none⟩) 4 cp1) 4 _ rfl HM.out.2.1 ⟨M, 0, none⟩ 4 4 ((Fr.keyOf mask).map bv) rfl rfl (World.news_of_block (cs := ((Fr.keyOf mask).map bv).toArray) (t := 5) (fr := (0, 0)) HM.out.1) (by simp [Fr.keyOf, bv, Value.oneCell']) (by omega) (by unfold maxLen; omega) (by omega) (by rw [HS4.out]; omega) (M + 1) HS4.out ?_
  intro g2 cp2 w4 hown2 hgrow2 hat2 hlt2
  have hg1n : g1 ≠ M := by omega
  have hM4 : w4.heap[M]? = some (.cells ((Fr.keyOf mask).map bv).toArray 5 (0, 0)) := (hgrow2.block M (by rw [HS4.out]; omega) (by intro e; simp [Value.ownBlock] at e; omega)).trans HM.out.1
  have hbx4 : w4.heap[w.heap.size]? = some (.cells #[.int .u8 op, .bool false, .int .u32 mask, .string s] 29) := (hgrow2.block _ (by rw [HS4.out]; omega) (by intro e; simp [Value.ownBlock] at e; omega)).trans HM.out.2.2.1
  have hb4 : Below w.heap.size w w4 := HM.out.2.2.2.grown hgrow2 (by rw [HS4.out]; omega) (by intro q hq; simp [Value.ownBlock] at hq; have := HY.out.1; have h := own_blk this (g := g1) rfl; omega)
  have hg2 : g2 ≠ M := by
    rcases hat2 with h | h
    · have h : g1 = g2 := by simpa [Value.ownBlock] using h
      omega
    · omega
  have hs4 : M + 1 ≤ w4.heap.size := by have := hgrow2.size; rw [HS4.out] at this; exact this
  have hhd : ([.int .u8 ((op : Int) % 16)] ++ [.int .u8 254, .int .u8 ((s.size : Int) / 256), .int .u8 ((s.size : Int) % 256)] ++ (Fr.keyOf mask).map bv : List Value) = (Fr.b0Of ⟨op, false, s.data.toList⟩ :: (Fr.lenOf s.data.toList.length ++ Fr.keyOf mask)).map bv := hd_fl op mask s (by omega) (by omega)
  rw [hhd] at hown2
  have HW4 := Lib.hid (And.intro hown2 (And.intro hM4 (And.intro hbx4 hb4)))
  clear hown2 hM4 hbx4 hb4 hgrow2 hhd hat2
  go_wp2_with fail
  go_loopw [3, 6] (fun bvv i wr => ∃ (k g cp : Nat), k ≤ s.size ∧ i = .int .i64 k ∧ bvv = .slice (some ⟨g, 0, none⟩) (8 + k) cp ∧ g ≠ M ∧ Hid (WrRel op false mask s w M (8 + k) k g cp wr)) (fun _ i _ => s.size - (intOf i).toNat)
  case atStart => exact ⟨0, g2, cp2, by omega, rfl, rfl, hg2, Lib.hid ⟨by simpa [Fr.unm] using HW4.out.1, HW4.out.2.1, HW4.out.2.2.1, HW4.out.2.2.2, hs4⟩⟩
  case round =>
    obtain ⟨k, g, cp, hk, rfl, rfl, hgM, HR⟩ := hrel
    by_cases hlt : k < s.size
    · have hk1 : (k : Int) < (s.size : Int) := by omega
      have hk0 : (0 : Int) ≤ (k : Int) := by omega
      have htm : (k : Int).tmod 4 = ((k % 4 : Nat) : Int) := by rw [Int.tmod_eq_emod_of_nonneg hk0]; omega
      have hm0 : (0 : Int) ≤ (k : Int).tmod 4 := by omega
      have hm4 : (k : Int).tmod 4 < 4 := by omega
      have hmn : ((k : Int).tmod 4).toNat = k % 4 := by omega
      clear htm
      have c3 : wr.cell? ⟨w.heap.size, 3, none⟩ = some (.string s) := by have h := HR.out.bx; simp [World.cell?, h]
      have cm : wr.cell? ⟨M, k % 4, none⟩ = some (.int .u8 ((Fr.kat (Fr.keyOf mask) k).toNat : Int)) := key_cell mask k HR.out.m
      have hxor := xor8 s[k] (Fr.kat (Fr.keyOf mask) k)
      have hst := unm_step (Fr.keyOf mask) s k hlt
      generalize Fr.kat (Fr.keyOf mask) k = q at cm hxor hst
      generalize hz : s[k] ^^^ q = z at hxor hst
      have HST := Lib.hid hst
      clear hst hz
      have hsz : wr.heap.size + 1 ≤ 140737488355328 ∨ True := Or.inr trivial
      clear hsz
      go_wp2_with fail
      go_region_law ((refine step_append_lies _ (by rfl) _ _ _ (by rfl) (w.heap.size + 1) 5 i0 (.int .u8 0) 1 1 Tryd.underlying50 HI.out.1 HI.out.2.1 HI.out.2.2.1 HI.out.2.2.2 rfl (by decide) _ (8 + k) _ (by rfl) ((HR.out.own.alloc _).drew) ⟨wr.heap.size, 0, none⟩ 1 1 [.int .u8 z.toNat] (by rfl) (by rfl) (World.news_of_block (cs := #[.int .u8 z.toNat]) (t := 5) (fr := (0, 0)) (heap_alloc_new wr _)) (by intro u hu; simp at hu; subst hu; rfl) (by omega) (by unfold maxLen; omega) (by omega) (by have := HR.out.sz; simp; omega) (wr.heap.size + 1) (by simp) ?_; intro g3 cp3 w5 hown3 hgrow3 hat3 hlt3))
      all_goals
        have HS := Lib.hid (HR.out.step HST.out hgM (by omega) hown3 hgrow3 hat3)
        have hs5 := HS.out.2
        clear hown3 hgrow3 hat3
        go_wp2_with fail
        go_roundw
        case rel => exact ⟨k + 1, g3, cp3, by omega, by go_num, rfl, hs5, Lib.hid HS.out.1⟩
        case measure => simp [intOf]; omega
    · obtain rfl : k = s.size := by omega
      have hcv := HR.out.done
      have hbl := HR.out.bl
      have HBL := Lib.hid hbl
      clear hbl
      go_wp2_with fail
      go_ret
      exact ⟨rfl, HBL.out⟩

theorem written_any (f : Fa) (w : World) (ho : f.Ok) (hs : f.data.size ≤ 400) : Calls Tryd.prog 16 #[f.v] w (WrittenPost f w) := by
  obtain ⟨op, fin, mask, s⟩ := f
  have h1 := ho.op
  have h2 := ho.mask
  simp only at h1 h2 hs
  unfold Fa.v
  simp only
  by_cases h : s.size < 126
  · cases fin with
    | true => exact written_ts op mask s w h1 h2 hs (by omega)
    | false => exact written_fs op mask s w h1 h2 hs (by omega)
  · cases fin with
    | true => exact written_tl op mask s w h1 h2 hs (by omega) (by omega)
    | false => exact written_fl op mask s w h1 h2 hs (by omega) (by omega)
end Go.Proofs.YtkkedekgniffoaaDoor
