/-
  FnFramesMasks holds: with other masks the same data are read. For every frames and every mask that the row lets in (no condition of ours).
-/
import Derived.Test.YtkkedekgniffoaaDoorAw
import Derived.Test.YtkkedekgniffoaaDoorLd
import Derived.Test.YtkkedekgniffoaaDoorFr
import Derived.Test.YtkkedekgniffoaaDoorBy
import Derived.Test.YtkkedekgniffoaaDoorCards
import Derived.Test.YtkkedekgniffoaaDoorTie
import Derived.Deep.DeepHandedRow
import Derived.Deep.DeepWitnessRowRef
import Derived.LaidMore
import Derived.LaidHandle
import Derived.Lay
namespace Go.Proofs.YtkkedekgniffoaaDoor.framesMasks
open Go.ChangeShapes Go.WideShapes Go.ChangeAt Go.RowKit
open K (Lies Yes strs)
def zF : Value := .agg #[.int .u8 0, .bool false, .int .u32 0, .string ByteArray.empty]
theorem info29 : (Tryd.prog.info? 29).map (fun i => (i.zero, i.size, i.bytes)) = some (some zF, 4, 24) := by kernel_rfl
def _root_.Go.Proofs.YtkkedekgniffoaaDoor.Fa.cells (f : Fa) : List Value := [.int .u8 f.op, .bool f.fin, .int .u32 f.mask, .string f.data]
structure MkRel (l : List Fa) (w : World) (k : Nat) (v : Value) (l' : List Fa) (wr : World) : Prop where
  own : wr.ownsRow w.heap.size 29 4 v k (l'.flatMap Fa.cells)
  bl : Below w.heap.size w wr
  len : l'.length = k
  same : l'.map Fa.f0 = (l.take k).map Fa.f0
  ok : ∀ f ∈ l', f.Ok

theorem xor_u32 (a b : Int) : ∃ q : Nat, q < 4294967296 ∧ bits .xor .u32 a b = (q : Int) := by
  show ∃ q : Nat, q < 4294967296 ∧ IntKind.u32.wrap ((BitVec.ofInt 32 a ^^^ BitVec.ofInt 32 b).toNat : Int) = (q : Int)
  have h : (BitVec.ofInt 32 a ^^^ BitVec.ofInt 32 b).toNat < 4294967296 := BitVec.isLt _
  generalize (BitVec.ofInt 32 a ^^^ BitVec.ofInt 32 b).toNat = z at h
  refine ⟨z, h, ?_⟩
  unfold IntKind.wrap
  simp only [IntKind.signed, IntKind.bits]
  simp
  omega
theorem MkRel.step {l l' : List Fa} {w wr w5 : World} {k q : Nat} {v : Value} {f : Fa} {g3 cp3 : Nat} (h : MkRel l w k v l' wr) (hk : k < l.length) (hf : frA l k = f) (hok : f.Ok) (hq : q < 4294967296)
    (hown : w5.ownsRow w.heap.size 29 4 (.slice (some ⟨g3, 0, none⟩) (k + 1) cp3) (k + 1) (l'.flatMap Fa.cells ++ [.int .u8 f.op, .bool f.fin, .int .u32 q, .string f.data])) (hb : Below w.heap.size w w5) :
    MkRel l w (k + 1) (.slice (some ⟨g3, 0, none⟩) (k + 1) cp3) (l' ++ [{ f with mask := q }]) w5 := by
  refine ⟨?_, hb, by rw [List.length_append, h.len]; rfl, ?_, fun x hx => ?_⟩
  · rw [List.flatMap_append]
    exact hown
  · have e : l[k] = f := by rw [← hf]; unfold frA; rw [List.getD, List.getElem?_eq_getElem hk]; rfl
    rw [List.take_succ_eq_append_getElem hk, List.map_append, List.map_append, h.same, e]
    rfl
  · rcases List.mem_append.mp hx with hx | hx
    · exact h.ok x hx
    · obtain rfl : x = { f with mask := q } := by simpa using hx
      exact ⟨hok.op, hq, hok.data⟩
theorem flat_cells (l : List Fa) (j i : Nat) (hj : j < l.length) (hi : i < 4) : (l.flatMap Fa.cells)[j * 4 + i]? = (frA l j).cells[i]? := by
  induction l generalizing j with
  | nil => simp at hj
  | cons f l ih =>
    rw [List.flatMap_cons]
    have hl : f.cells.length = 4 := rfl
    cases j with
    | zero => rw [Nat.zero_mul, Nat.zero_add, List.getElem?_append_left (by omega)]; rfl
    | succ j =>
      rw [List.getElem?_append_right (by omega), hl, show (j + 1) * 4 + i - 4 = j * 4 + i from by omega, ih j (by simpa using hj)]
      rfl
theorem MkRel.frs {l l' : List Fa} {w wr : World} {k : Nat} {v : Value} (h : MkRel l w k v l' wr) : FrsV wr v l' := by
  obtain ⟨h1, h2⟩ := h.own
  rcases h2 with ⟨rfl, rfl⟩ | ⟨g, cap, cur, rfl, hb, hg, hnc, hcm, hs, ht⟩
  · have : l' = [] := List.length_eq_zero_iff.1 h.len
    subst this
    exact ⟨none, 0, 0, rfl, Nat.le_refl _, by omega, ⟨rfl, fun h => by omega⟩, fun f hf => by cases hf⟩
  · unfold maxLen at hcm
    refine ⟨_, k, cap, rfl, hnc, by omega, ⟨h.len, fun _ => ⟨g, 0, rfl, (Array.getElem?_eq_some_iff.1 hg).1, fun j hj => ?_⟩⟩, h.ok⟩
    have hc : ∀ i u, i < 4 → (frA l' j).cells[i]? = some u → wr.cell? ⟨g, 0 + j * 4 + i, none⟩ = some u := fun i u hi hu => by
      have h3 := flat_cells l' j i (by rw [h.len]; exact hj) hi
      rw [hu, ← ht, List.getElem?_take, if_pos (by omega)] at h3
      simp only [World.cell?, hg, Nat.zero_add]
      simpa using h3
    exact ⟨hc 0 _ (by omega) rfl, hc 1 _ (by omega) rfl, hc 2 _ (by omega) rfl, hc 3 _ (by omega) rfl⟩

theorem bytesB_size (l : List Fa) (h8 : l.length ≤ 8) (h : ∀ f ∈ l, f.data.size ≤ 400) : (bytesB l).size ≤ 4000 := by
  have hk : ∀ k, k ≤ l.length → (bytesB (l.take k)).size ≤ 408 * k := by
    intro k
    induction k with
    | zero => intro _; exact Nat.le_refl _
    | succ k ih =>
      intro hk
      rw [bytesB_step l k (by omega)]
      have h1 := ih (by omega)
      have h2 := written_len (frA l k) (h _ (frA_mem (by omega)))
      rw [ByteArray.size_append]
      omega
  have := hk l.length (Nat.le_refl _)
  rw [List.take_length] at this
  omega
theorem hE_below {w w' : World} (hE : ∃ te ve, w.cell? ⟨1, 0, none⟩ = some (.iface te ve)) (hb : Below w.heap.size w w') : ∃ te ve, w'.cell? ⟨1, 0, none⟩ = some (.iface te ve) := by
  obtain ⟨te, ve, he⟩ := hE
  exact ⟨te, ve, (hb.cell (p := ⟨1, 0, none⟩) (World.block_lt_of_cell? _ _ he)).trans he⟩
theorem join_size {ss : List ByteArray} : (joinB ss).size = (ss.flatMap fun t => t.data.toList).length := by rw [← K.bsize, joinB_data]
theorem ends_same {e : Fr.End} {c1 c2 : Nat} {k1 k2 : Bool} (h : e = .fine ∨ ∃ c, e = .closed c ∧ 0 < c) (h1 : (e = .fine ∧ c1 = 0 ∧ k1 = true) ∨ (e = .err ∧ c1 = 0 ∧ k1 = false) ∨ (e = .closed c1 ∧ k1 = ((c1 : Int) != 0)))
    (h2 : (e = .fine ∧ c2 = 0 ∧ k2 = true) ∨ (e = .err ∧ c2 = 0 ∧ k2 = false) ∨ (e = .closed c2 ∧ k2 = ((c2 : Int) != 0))) : k1 = true ∧ k2 = true ∧ c1 = c2 := by
  rcases h with rfl | ⟨c, rfl, hc⟩
  · rcases h1 with ⟨_, rfl, rfl⟩ | ⟨h, _⟩ | ⟨h, _⟩
    · rcases h2 with ⟨_, rfl, rfl⟩ | ⟨h, _⟩ | ⟨h, _⟩
      · exact ⟨rfl, rfl, rfl⟩
      · cases h
      · cases h
    · cases h
    · cases h
  · rcases h1 with ⟨h, _⟩ | ⟨h, _⟩ | ⟨h, rfl⟩
    · cases h
    · cases h
    · rcases h2 with ⟨h', _⟩ | ⟨h', _⟩ | ⟨h', rfl⟩
      · cases h'
      · cases h'
      · cases h
        cases h'
        refine ⟨?_, ?_, rfl⟩ <;> simp <;> omega

set_option maxHeartbeats 8000000 in
set_option maxRecDepth 100000 in
theorem law_any (v : Value) (l : List Fa) (mask : Nat) (w : World) (_hm : mask < 4294967296) (hV : FrsV w v l) (hT : Tabs w) (hE : ∃ te ve, w.cell? ⟨1, 0, none⟩ = some (.iface te ve)) : Calls Tryd.prog 3 #[v, .int .u32 mask] w (Yes w) := by
  obtain ⟨i0, hi0, hz0, hz1, hz2⟩ := info_parts info29
  have HI := Lib.hid (And.intro hi0 (And.intro hz0 (And.intro hz1 hz2)))
  clear hi0 hz0 hz1 hz2
  have HTE := Lib.hid (And.intro hT hE)
  have HV := Lib.hid hV
  have h6 := zzFits17_any v l w hV
  obtain ⟨A, n, cap, rfl, hnc, hc, -, -⟩ := hV
  clear hT hE
  go_enter Tryd.func3, Tryd.ntmps3
  go_wp2_with fail
  refine h6.mono ?_
  rintro e w1 ⟨b, rfl, hb1, -⟩
  have HB1 := Lib.hid hb1
  clear h6 hb1
  cases b with
  | false =>
    go_wp2_with fail
    go_ret
    exact ⟨rfl, HB1.out⟩
  | true =>
    go_wp2_with fail
    refine (bytes_any _ l _ (HV.out.below HB1.out)).mono ?_
    rintro e w2 ⟨s, b, rfl, hb2, hs, -⟩
    have HB2 := Lib.hid (HB1.out.trans (hb2.mono HB1.out.size))
    have HS := Lib.hid hs
    clear hb2 hs
    cases b with
    | false =>
      have h9 := awake_any _ (HTE.out.1.below HB2.out) (hE_below HTE.out.2 HB2.out)
      go_wp2_with fail
      refine h9.mono ?_
      rintro e w8 ⟨rfl, hb8⟩
      have HB8 := Lib.hid (HB2.out.trans (hb8.mono HB2.out.size))
      clear hb8 h9
      go_wp2_with fail
      go_ret
      exact ⟨rfl, HB8.out⟩
    | true =>
      have HS2 := Lib.hid (HS.out rfl)
      have hl8 := HS2.out.1
      have hn8 : n ≤ 8 := by obtain ⟨_, _, _, e, _, _, h, _⟩ := HV.out; cases e; have := h.1; omega
      have h8 := right_any _ l w2 (HV.out.below HB2.out) (by omega)
      go_wp2_with fail
      refine h8.mono ?_
      rintro e w3 ⟨b, rfl, hb3, hr⟩
      have HB3 := Lib.hid (HB2.out.trans (hb3.mono HB2.out.size))
      have HR := Lib.hid hr
      clear hb3 hr h8
      cases b with
      | false =>
        have h9 := awake_any _ (HTE.out.1.below HB3.out) (hE_below HTE.out.2 HB3.out)
        go_wp2_with fail
        refine h9.mono ?_
        rintro e w8 ⟨rfl, hb8⟩
        have HB8 := Lib.hid (HB3.out.trans (hb8.mono HB3.out.size))
        clear hb8 h9
        go_wp2_with fail
        go_ret
        exact ⟨rfl, HB8.out⟩
      | true =>
        have HR3 := Lib.hid (HR.out rfl)
        go_wp2_with fail
        go_loopw [7, 8] (fun mv i wr => ∃ k : Nat, k ≤ n ∧ i = .int .i64 k ∧ ∃ l', Hid (MkRel l w3 k mv l' wr)) (fun _ i _ => n - (intOf i).toNat)
        case atStart => exact ⟨0, by omega, rfl, [], Lib.hid ⟨World.ownsRow_nil _ _ _ _, Below.refl _ _, rfl, rfl, fun f hf => by cases hf⟩⟩
        case round =>
          obtain ⟨k, hk, rfl, l', HR2⟩ := hrel
          by_cases hlt : k < n
          · obtain ⟨A', n', cap', hA', _, _, hAt, hok⟩ := HV.out.below HB3.out
            cases hA'
            obtain ⟨ab, ao, rfl, hab, hcs⟩ := hAt.2 (by omega)
            have hx : ∀ o, wr.cell? ⟨ab, o, none⟩ = w3.cell? ⟨ab, o, none⟩ := fun o => HR2.out.bl.cell (p := ⟨ab, o, none⟩) hab
            have c0 := (hx _).trans (hcs k hlt).1
            have c1 := (hx _).trans (hcs k hlt).2.1
            have c2 := (hx _).trans (hcs k hlt).2.2.1
            have c3 := (hx _).trans (hcs k hlt).2.2.2
            have hok := hok _ (frA_mem (l := l) (j := k) (by have := hAt.1; omega))
            have hkl : k < l.length := by have := hAt.1; omega
            obtain ⟨a, ha⟩ : ∃ a, frA l k = a := ⟨_, rfl⟩
            rw [ha] at c0 c1 c2 c3 hok
            have HAA := Lib.hid (And.intro ha (And.intro hok hkl))
            clear hcs hx hAt hok ha hkl
            obtain ⟨op, fin, mk, t⟩ := a
            simp only at c0 c1 c2 c3
            obtain ⟨q, hq32, hq⟩ := xor_u32 (mk : Int) ((mask : Int) * ((k : Int) + 1) % 4294967296)
            have hw := HR2.out.bl.size
            have hmk := HAA.out.2.1.mask
            simp only at hmk
            go_wp2_with (at_builtin; refine Hid.out ?_)
            refine Lib.hid ?_
            refine wpList_append_lies _ rfl _ _ _ rfl w3.heap.size 29 i0 _ 4 24 Tryd.underlying22 HI.out.1 HI.out.2.1 HI.out.2.2.1 HI.out.2.2.2 rfl (by omega) u7 k _ rfl ((HR2.out.own.alloc _).alloc _) ⟨wr.heap.size + 1, 0, none⟩ 1 1 [.int .u8 op, .bool fin, .int .u32 q, .string t] rfl rfl (World.news_of_block (cs := #[.int .u8 op, .bool fin, .int .u32 q, .string t]) (t := 29) (fr := (0, 0)) (by have h := heap_alloc2_new wr (.cells #[.int .u8 op, .bool fin, .int .u32 q, .string t] 29) (.cells #[.int .u8 op, .bool fin, .int .u32 q, .string t] 29); exact h)) (by simp [Value.oneCell']) (by omega) (by unfold maxLen; omega) (by omega) (by simp; omega) (wr.heap.size + 2) (by simp) ?_
            intro g3 cp3 w5 hown3 hgrow3 hat3 hlt3
            have hb5 : Below w3.heap.size w3 w5 := ((HR2.out.bl.alloc hw _).alloc (by simp; omega) _).grown hgrow3 (by simp; omega) (fun q hq => (own_blk HR2.out.own hq).1)
            have HM5 := Lib.hid (HR2.out.step HAA.out.2.2 HAA.out.1 HAA.out.2.1 hq32 hown3 hb5)
            clear hown3 hgrow3 hat3 hb5 hq
            go_wp2_with fail
            go_roundw
            case rel => exact ⟨k + 1, by omega, by go_num, _, HM5⟩
            case measure => simp [intOf]; omega
          · obtain rfl : k = n := by omega
            have hnl : l.length = k := by obtain ⟨_, _, _, e, _, _, h, _⟩ := HV.out; cases e; exact h.1
            have hfr := HR2.out.frs
            have hsame : l'.map Fa.f0 = l.map Fa.f0 := by have h := HR2.out.same; rwa [List.take_of_length_le (by omega)] at h
            have hl8' : l'.length ≤ 8 := by have := HR2.out.len; omega
            have hsz' : ∀ f ∈ l', f.data.size ≤ 400 := fun f hf => by
              have h1 : f.f0 ∈ l.map Fa.f0 := by rw [← hsame]; exact List.mem_map_of_mem hf
              obtain ⟨x, hx, hxf⟩ := List.mem_map.1 h1
              have h2 := HS2.out.2.1 x hx
              have h3 := congrArg (fun z : Fr.F0 => z.data.length) hxf
              simp only [Fa.f0, K.bsize] at h3
              omega
            have hbw : Below w.heap.size w wr := HB3.out.trans (HR2.out.bl.mono HB3.out.size)
            have HW := Lib.hid (And.intro hbw (And.intro hsame (And.intro hl8' hsz')))
            clear hsame hl8' hsz' hbw hnl
            have h7 := bytes_any _ l' wr hfr
            clear hfr
            go_wp2_with fail
            refine h7.mono ?_
            rintro e w4 ⟨s2, b2, rfl, hb4, hs2, hb2⟩
            obtain rfl := hb2 HW.out.2.2.1 HW.out.2.2.2
            have hs2e := (hs2 rfl).2.2
            have hb04 : Below w.heap.size w w4 := HW.out.1.trans (hb4.mono HW.out.1.size)
            have H4 := Lib.hid (And.intro hb04 hs2e)
            clear hs2 hb2 hb4 hs2e hb04 h7
            have hse := HS2.out.2.2
            have hreach : ∀ l0 : List Fa, l0.map Fa.f0 = l.map Fa.f0 → (∀ f ∈ l0, f.data.size ≤ 400) → ∃ st r, Fr.Reach Fr.start (bytesB l0).data.toList (Fr.dataOf (l.map Fa.f0)) st r ∧ Fr.step st r = none ∧ Fr.fin st r = Fr.endOf (l.map Fa.f0) ∧ (Fr.endOf (l.map Fa.f0) = .fine ∨ ∃ c, Fr.endOf (l.map Fa.f0) = .closed c ∧ 0 < c) := fun l0 h1 h2 => by
              have e : (l0.map Fa.pr).map (·.1) = l0.map Fa.f0 := by rw [List.map_map]; rfl
              have h := Fr.go_right (l0.map Fa.pr) false (by rw [e, h1]; exact HR3.out) (fun x hx => by
                obtain ⟨f, hf, rfl⟩ := List.mem_map.1 hx
                have := h2 f hf
                show f.data.data.toList.length < 65536
                rw [K.bsize]; omega) 0 0 [0, 0, 0, 0]
              rw [e, h1] at h
              exact h
            obtain ⟨st1, r1, ha1, ha2, ha3, ha4⟩ := hreach l rfl HS2.out.2.1
            obtain ⟨st2, r2, hc1, hc2, hc3, _⟩ := hreach l' HW.out.2.1 HW.out.2.2.2
            rw [← hse] at ha1
            rw [← H4.out.2] at hc1
            have hss : s.size ≤ 4000 := by rw [hse]; exact bytesB_size l hl8 HS2.out.2.1
            have hss2 : s2.size ≤ 4000 := by rw [H4.out.2]; exact bytesB_size l' HW.out.2.2.1 HW.out.2.2.2
            have HA := Lib.hid (And.intro ha1 (And.intro ha2 (And.intro ha3 (And.intro hc1 (And.intro hc2 (And.intro hc3 ha4))))))
            clear hreach ha1 ha2 ha3 hc1 hc2 hc3 ha4 hse
            have hb0 : Below w4.heap.size w4 (w4.alloc (.cells #[.string s] 9)) := (Below.refl _ w4).alloc (Nat.le_refl _) _
            have hf1 := frames_any _ 1 1 [s] _ (K.lies_one w4 s 9) rfl (by omega) (by omega) (by rw [one_flat, K.bsize]; omega) ((HTE.out.1.below H4.out.1).below hb0) (hE_below (hE_below HTE.out.2 H4.out.1) hb0)
            have HB0 := Lib.hid hb0
            clear hb0
            go_wp2_with fail
            refine hf1.mono ?_
            rintro e w5 ⟨A1, n1, cap1, out1, cl1, ok1, sa, la, rfl, hb5, hl1, hlen1, hn1, hr1, he1, hend1⟩
            have hbw5 : Below w4.heap.size w4 w5 := HB0.out.trans (hb5.mono (by simp))
            have hb6 : Below w5.heap.size w5 (w5.alloc (.cells #[.string s2] 9)) := (Below.refl _ w5).alloc (Nat.le_refl _) _
            have hf2 := frames_any _ 1 1 [s2] _ (K.lies_one w5 s2 9) rfl (by omega) (by omega) (by rw [one_flat, K.bsize]; omega) (((HTE.out.1.below H4.out.1).below hbw5).below hb6) (hE_below (hE_below (hE_below HTE.out.2 H4.out.1) hbw5) hb6)
            have H5 := Lib.hid (And.intro hbw5 (And.intro hl1 (And.intro hlen1 (And.intro hr1 (And.intro he1 hend1)))))
            have HB6 := Lib.hid hb6
            clear hbw5 hl1 hlen1 hr1 he1 hend1 hb5 hb6 hf1
            go_wp2_with fail
            refine hf2.mono ?_
            rintro e w6 ⟨A2, n2, cap2, out2, cl2, ok2, sb, lb, rfl, hb7, hl2, hlen2, hn2, hr2, he2, hend2⟩
            have hb56 : Below w5.heap.size w5 w6 := HB6.out.trans (hb7.mono (by simp))
            have hr1 := H5.out.2.2.2.1
            have hend1 := H5.out.2.2.2.2.2
            rw [one_flat] at hr1 hr2
            obtain ⟨hd1, e1, e1'⟩ := reach_uniq hr1 H5.out.2.2.2.2.1 HA.out.1 HA.out.2.1
            obtain ⟨hd2, e2, e2'⟩ := reach_uniq hr2 he2 HA.out.2.2.2.1 HA.out.2.2.2.2.1
            have hj : joinB out1 = joinB out2 := ba_of (hd1.trans hd2.symm)
            rw [e1, e1', HA.out.2.2.1] at hend1
            rw [e2, e2', HA.out.2.2.2.2.2.1] at hend2
            obtain ⟨hk1, hk2, hcl⟩ := ends_same HA.out.2.2.2.2.2.2 hend1 hend2
            subst hk1 hk2 hcl
            have hsz1 : (joinB out1).size ≤ 4000 := by
              have := reach_len hr1
              rw [join_size]
              rw [K.bsize] at this
              omega
            have hj1 := joined_any A1 n1 cap1 out1 w6 (H5.out.2.1.below hb56 (Nat.le_refl _)) H5.out.2.2.1 (by omega) (by omega)
            have hj2 := joined_any A2 n2 cap2 out2 w6 hl2 hlen2 (by omega) (by rw [← hj]; omega)
            unfold JoinPost at hj1 hj2
            rw [← hj] at hj2
            have hbw6 : Below w.heap.size w w6 := (H4.out.1.trans (H5.out.1.mono H4.out.1.size)).trans (hb56.mono (by have := H4.out.1.size; have := H5.out.1.size; omega))
            have h9 := awake_any w6 (HTE.out.1.below hbw6) (hE_below HTE.out.2 hbw6)
            have H6 := Lib.hid hbw6
            clear hb56 hr1 hr2 hend1 hend2 hd1 hd2 e1 e1' e2 e2' hj hl2 hlen2 he2 hb7 hbw6 hf2
            generalize joinB out1 = x at hsz1 hj1 hj2
            go_wp2_with fail
            refine hj1.mono ?_
            rintro e w7 ⟨rfl, rfl⟩
            go_wp2_with fail
            refine hj2.mono ?_
            rintro e w7 ⟨rfl, rfl⟩
            clear hj1 hj2
            go_wp2_with fail
            refine h9.mono ?_
            rintro e w8 ⟨rfl, hb8⟩
            have HB8 := Lib.hid (H6.out.trans (hb8.mono H6.out.size))
            clear hb8 h9
            go_wp2_with fail
            go_ret
            exact ⟨rfl, HB8.out⟩

theorem own : ownKnob Tryd.prog.godebug = none := by kernel_rfl
theorem laidOut : laidOutB Tryd.prog = true := by kernel_rfl
/-- what the row's list gives: the tables, and io.EOF is not nil -/
theorem facts {W : World} (h : laidMetH Tryd.prog Rows.fnFramesMasksRow.laid W) : Tabs W ∧ ∃ te ve, W.cell? ⟨1, 0, none⟩ = some (.iface te ve) := by
  rw [MakeChecks.laidMetH_plain _ _ _ (by kernel_rfl)] at h
  exact laid_facts h
theorem door_met (os : Os) (args : Array Value) : laidMetH Tryd.prog Rows.fnFramesMasksRow.laid ((World.laidAll Tryd.prog os Rows.fnFramesMasksRow.laid).forCall (fun _ _ => 0) ⟨#[], args, []⟩).memory := by
  rw [MakeChecks.laidMetH_plain _ _ _ (by kernel_rfl)]
  exact laidMet_laidAll _ (by kernel_rfl) (by kernel_rfl)
set_option maxRecDepth 100000 in
theorem reads (os : Os) {H : Type} (enc : TypeId × Value → H) : ∃ places, DataW.whole enc Tryd.prog ((World.laidAll Tryd.prog os Rows.fnFramesMasksRow.laid).forCall (fun _ _ => 0) ⟨#[], #[.slice none 0 0, .int .u32 0], []⟩).memory Tryd.f3.params.toList Rows.fnFramesMasksSpec.vars false (#[.slice none 0 0, .int .u32 0] : Array Value).toList 8 = some ([.nil, .lit (.int .u32 0)], [], places) :=
  ⟨[], by kernel_rfl⟩

set_option maxRecDepth 100000 in
theorem contract (H : Type) (enc : TypeId × Value → H) (W : World) (args : Array Value) (ds gs : List (DataW H)) (before : List MemPlace)
    (hval : ∀ (j : Nat) t v, Tryd.f3.params[j]? = some t → args[j]? = some v → Value.okWide Tryd.prog W .any 0 t v)
    (hW : DataW.Whole enc Tryd.prog Tryd.f3.params.toList Rows.fnFramesMasksSpec.vars false W args.toList ds gs before) (hL : laidMetH Tryd.prog Rows.fnFramesMasksRow.laid W) :
    Calls Tryd.prog 3 args W fun e W' => ∃ v, e = .returned v ∧ Rows.fnFramesMasksSpec.post enc Tryd.prog Tryd.f3 false true false false W args v W' := by
  have hW' := hW
  obtain ⟨p, q, hA0, hV, rfl, hfz, hnd⟩ := hW
  have hA : DataW.TrodAll enc Tryd.prog W 0 (fun _ => true) true Tryd.f3.params.toList args.toList ds p := hA0
  rw [Tryd.params3] at hA hval
  obtain ⟨v0, vs0, d0, ds0, p0, q0, hargs, rfl, rfl, h0, r0⟩ := trodAll_cons hA
  obtain ⟨v1, vs1, d1, ds1, p1, q1, rfl, rfl, rfl, h1, r1⟩ := trodAll_cons r0
  obtain ⟨rfl, rfl, rfl⟩ := trodAll_nil r1
  obtain rfl : args = #[v0, v1] := by cases args; simp_all
  obtain ⟨rfl, rfl⟩ := trodVars_none hV
  obtain ⟨l, hl⟩ := open_frames Tryd.underlying22 Tryd.underlying29 rfl rfl rfl rfl Tryd.underlying5 Tryd.underlying4 Tryd.underlying23 Tryd.underlying9 (by kernel_rfl) (by kernel_rfl) (fun _ => rfl) (hval 0 22 v0 rfl rfl) h0
  obtain ⟨m, rfl, rfl, rfl, hm⟩ := open_int Tryd.underlying23 (hval 1 23 v1 rfl rfl) h1
  have hm2 : 0 ≤ m ∧ m ≤ 4294967295 := by simpa [Lit.wf, IntKind.min, IntKind.max, IntKind.signed, IntKind.bits] using hm
  obtain ⟨k, rfl⟩ := Int.eq_ofNat_of_zero_le hm2.1
  have hF := facts hL
  refine (law_any _ l k W (by omega) hl hF.1 hF.2).mono fun e W' ⟨hE, hg⟩ => ?_
  subst hE
  exact ⟨_, rfl, K.post_law (tb := 4) laidOut Tryd.underlying4 rfl (by kernel_rfl) rfl rfl (fun W => ok_one (by kernel_rfl) rfl (okWide_bool_mk Tryd.underlying4 _)) hW' hg⟩

set_option maxRecDepth 100000 in
theorem lifted (os : Os) (started : os.Started) (H : Type) (enc : TypeId × Value → H) (F : Stop.Interp) :
    ReturnsInHanded {} Tryd.checked os 3 .any ((OpenSpec.ofChange Rows.fnFramesMasksSpec).preRow enc Tryd.prog Tryd.f3 Rows.fnFramesMasksRow.domain false Rows.fnFramesMasksRow.laid) (((OpenSpec.ofChange Rows.fnFramesMasksSpec).at F).post enc Tryd.prog Tryd.f3 false true false false) := by
  obtain ⟨places, hx⟩ := reads os enc
  refine returnsInHanded_of_row (C := Tryd.checked) (s := OpenSpec.ofChange Rows.fnFramesMasksSpec) own started (by kernel_rfl) Tryd.func3
    (witness_row_atRef (enc := enc) (C := Tryd.checked) false (World.laidAll Tryd.prog os Rows.fnFramesMasksRow.laid) #[.slice none 0 0, .int .u32 0] (World.laidAll_os _ _ _) (by kernel_rfl) (by kernel_rfl) (by kernel_rfl)
      (OpenSpec.preRow_of_cond 8 hx (by kernel_rfl) (fun k hk => by cases hk) (by kernel_rfl) (door_met os _))) ?_
  intro W base args ds gs before hval hW _ hcond _ hL _ _
  exact contract H enc W args ds gs before hval hW hL

theorem said : Rows.FnFramesMasksSaid :=
  OpenClaim.holds_of_cond 3 Tryd.f3 rfl rfl rfl rfl rfl rfl rfl ⟨rfl, rfl, rfl, rfl, rfl⟩ rfl rfl rfl rfl rfl (by kernel_rfl) Tryd.func3 (by kernel_rfl)
    (of_decide_eq_true (by kernel_rfl)) (by unfold Func.isWrapper; first | (rw [if_pos (by decide +kernel)]; kernel_rfl) | (rw [if_neg (by decide +kernel)]; exact ⟨rfl, rfl⟩))
    (fun os started H enc _ F => by rw [OpenClaim.pre_eq_preRow]; exact lifted os started H enc F)

theorem plain (f : FuncId) (fn : Func) (hf : Tryd.pinned.checked.prog.funcNamed "pub-streamkeep/laws.FnFramesMasks" = some f) (hfn : Tryd.pinned.checked.prog.funcs[f]? = some fn) :
    false = Tryd.pinned.checked.prog.looks [] ∧ ∀ (j : Nat) t, fn.params[j]? = some t → Tryd.pinned.checked.prog.wantsStandIn t = false := by
  obtain rfl : f = 3 := Option.some.inj ((show Tryd.prog.funcNamed "pub-streamkeep/laws.FnFramesMasks" = some 3 by kernel_rfl).symm.trans hf) |>.symm
  obtain rfl : fn = Tryd.f3 := (Option.some.inj (Tryd.func3.symm.trans hfn)).symm
  refine ⟨by kernel_rfl, fun j t ht => ?_⟩
  rw [Tryd.params3] at ht
  have hm : t ∈ [22, 23] := by simpa using Array.mem_of_getElem? ht
  have hall : ([22, 23].all fun u => !Tryd.prog.wantsStandIn u) = true := by kernel_rfl
  exact (show Tryd.prog.wantsStandIn t = false by simpa using List.all_eq_true.1 hall t hm)

/-- THE CARD. -/
theorem card : Rows.FnFramesMasksCardSaid :=
  Claim7.holds_tied_plain_at .later [] _ _ _ _ said (fun _ h => by cases h) (by kernel_rfl) (fun _ h => by cases h) fnFramesMasks_row_tie rfl ⟨rfl, rfl⟩ (by kernel_rfl) rfl plain (by kernel_rfl)

end Go.Proofs.YtkkedekgniffoaaDoor.framesMasks
