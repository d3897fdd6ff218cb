/-
  decodeConsumerState: what waits, and its end.
-/
import Derived.Test.YtchphfdoneckeaaDoorD2
namespace Go.Proofs.YtchphfdoneckeaaDoor
open Go.RowKit Go.Lib
open Cs (Wt Kp Ag)

theorem apart_takeW {l : List Wt} (h : l.Pairwise (fun a b => a.s ≠ b.s)) {j : Nat} (hj : j < l.length) : ∀ y ∈ l.take j, y.s ≠ l[j].s := fun y hy => by
  obtain ⟨i, hi, rfl⟩ := List.mem_take_iff_getElem.1 hy
  exact List.pairwise_iff_getElem.1 h i j (by omega) hj (by omega)
/-- the first loop -/
structure D1Rel (S BI BX bb N M : Nat) (W : World) (k : Kp) (b : Nat) (all tl : List UInt8) (ws : List Wt) (j pos : Nat) (wr : World) : Prop where
  bt : But (fun q => q = S ∨ q = BI ∨ W.heap.size ≤ q) W wr
  st : KeptAt wr S k (.map (some b)) (.map none)
  da : DecAt wr BX bb N M all
  bi : BiAt wr BI pos
  mp : ∃ D, PMap wr b j D (ws.take j)
  rs : all.drop pos = (ws.drop j).flatMap (encWt k) ++ tl
theorem bi93 {w : World} {BI pos : Nat} (h : BiAt w BI pos) (cs : Array Value) (f : Nat × Nat) : w.heap[BI]? ≠ some (.cells cs 93 f) := by
  rw [show w.heap[BI]? = _ from h]
  intro e; injection e with e; injection e with _ e _; exact absurd e (by decide)
/-- from what waits on -/
noncomputable def drest23 : Code := p2 (p2 (p2 (p2 (p2 (p2 (p2 (p2 (p2 (p2 (p2 (p2 (p2 (p2 (p2 (p2 (Tryd.f34.body.getD .skip))))))))))))))))
set_option maxHeartbeats 8000000 in
set_option maxRecDepth 1000000 in
theorem dec23 (S BI BX bb N M pos : Nat) (k : Kp) (ag ys : List Ag) (ws : List Wt) (all : List UInt8) (w : World) (x0 x2 x3 x5 x12 x13 x14 x15 x16 x17 x18 x19 x20 x21 x22 x23 x24 x25 x26 x27 x28 x29 x30 x31 x32 x33 x34 x35 x36 x37 x38 x39 x40 x41 x42 x43 x44 x45 x46 x47 x48 x49 x50 x51 x52 x53 x54 x55 x56 x57 x58 x59 x60 x61 x62 x63 x64 x65 x66 x67 x68 x69 x70 x71 x72 x73 x74 x75 x76 x77 x78 x79 x80 x81 x82 x83 x84 x85 x86 x87 x88 x89 x90 x91 x92 x93 x94 x95 x96 x97 x98 x99 x100 x101 x102 x103 x104 x105 x106 x107 x108 x109 x110 x111 x112 x113 x114 x115 x116 x117 x118 x119 x120 x121 x122 x123 x124 x125 x126 x127 x128 x129 x130 x131 x132 x133 x134 x135 x136 x137 x138 x139 x140 x141 x142 x143 x144 x145 x146 x147 x148 x149 x150 x151 x152 x153 x154 x155 x156 x157 x158 x159 x160 x161 x162 x163 x164 x165 x166 x167 x168 x169 x170 x171 x172 x173 x174 x175 x176 x177 x178 x179 x180 x181 x182 x183 x184 x185 x186 x187 x188 x189 x190 x191 x192 x193 x194 x195 x196 x197 x198 x199 x200 x201 x202 x203 x204 x205 x206 x207 x208 x209 x210 x211 x212 x213 x214 x215 x216 x217 x218 x219 x220 x221 x222 x223 x224 x225 x226 x227 x228 : Value) (Post : Ending → World → Prop)
    (hK : KeptAt w S k (.map none) (.map none)) (hD : DecAt w BX bb N M all) (hB : BiAt w BI pos) (hr : all.drop pos = uvarint ws.length ++ (encP k ws ++ (uvarint ys.length ++ ys.flatMap (encAg k)))) (hM : M ≤ 1000000) (hne : S ≠ BI ∧ S ≠ BX ∧ S ≠ bb ∧ BI ≠ BX ∧ BI ≠ bb)
    (hy : ys.Perm ag) (hyl : ys.length ≤ 12) (hap : ys.Pairwise (fun a b => a.s ≠ b.s)) (hs : ∀ x ∈ ys, k.fs < x.s ∧ x.s < 9223372036854775808 ∧ 1 ≤ x.n ∧ x.n < 9223372036854775808)
    (hx : ws.Perm k.waits) (hxl : ws.length ≤ 12) (hxp : ws.Pairwise (fun a b => a.s ≠ b.s)) (hw : ∀ x ∈ ws, k.fs < x.s ∧ x.s < 9223372036854775808 ∧ k.fc < x.c ∧ x.c < 9223372036854775808 ∧ 0 ≤ x.t ∧ x.t ≤ 1152921504606846976 ∧ x.t % 1000000000 = 0)
    (hPost : ∀ (pv rv : Value) (w' : World), KeptAt w' S k pv rv → Pend w' pv 12 k.waits → Redel w' rv 12 ag → (ag = [] → rv = .map none) → But (fun q => q = S ∨ q = BI ∨ w.heap.size ≤ q) w w' → Post (.returned (.tuple #[.pointer (some ⟨S, 0, none⟩), .nilIface])) w') :
    Code.wp Tryd.prog drest23 (bodyPost Tryd.prog Tryd.f34 Post) ⟨#[x0, .pointer (some ⟨BX, 0, none⟩), x2, x3, .int .u8 2, x5, .pointer (some ⟨BI, 0, none⟩), .func (.func 47) #[] #[.pointer (some ⟨BI, 0, none⟩), .pointer (some ⟨BX, 0, none⟩)], .func (.func 49) #[] #[.pointer (some ⟨BI, 0, none⟩), .pointer (some ⟨BX, 0, none⟩)], .func (.func 47) #[] #[.pointer (some ⟨BI, 0, none⟩), .pointer (some ⟨BX, 0, none⟩)], .func (.func 47) #[] #[.pointer (some ⟨BI, 0, none⟩), .pointer (some ⟨BX, 0, none⟩)], .pointer (some ⟨S, 0, none⟩), x12, x13, x14, x15, x16, x17, x18, x19, x20, x21, x22, x23, x24, x25, x26, x27, x28, x29, x30, x31, x32, x33, x34, x35, x36, x37, x38, x39, x40, x41, x42, x43, x44, x45, x46, x47, x48, x49, x50, x51, x52, x53, x54, x55, x56, x57, x58, x59, x60, x61, x62, x63, x64, x65, x66, x67, x68, x69, x70, x71, x72, x73, x74, x75, x76, x77, x78, x79, x80, x81, x82, x83, x84, x85, x86, x87, x88, x89, x90, x91, x92, x93, x94, x95, x96, x97, x98, x99, x100, x101, x102, x103, x104, x105, x106, x107, x108, x109, x110, x111, x112, x113, x114, x115, x116, x117, x118, x119, x120, x121, x122, x123, x124, x125, x126, x127, x128, x129, x130, x131, x132, x133, x134, x135, x136, x137, x138, x139, x140, x141, x142, x143, x144, x145, x146, x147, x148, x149, x150, x151, x152, x153, x154, x155, x156, x157, x158, x159, x160, x161, x162, x163, x164, x165, x166, x167, x168, x169, x170, x171, x172, x173, x174, x175, x176, x177, x178, x179, x180, x181, x182, x183, x184, x185, x186, x187, x188, x189, x190, x191, x192, x193, x194, x195, x196, x197, x198, x199, x200, x201, x202, x203, x204, x205, x206, x207, x208, x209, x210, x211, x212, x213, x214, x215, x216, x217, x218, x219, x220, x221, x222, x223, x224, x225, x226, x227, x228], []⟩ w := by
  have HP := Lib.hid hPost
  have HU := Lib.hid (And.intro hx (And.intro hxl (And.intro hxp hw)))
  have HY := Lib.hid (And.intro hy (And.intro hyl (And.intro hap hs)))
  have HK := Lib.hid (And.intro hK (And.intro hD (And.intro hB hr)))
  have HNE := Lib.hid hne
  have hna := hxl
  obtain ⟨nw, hn⟩ : ∃ nw, ws.length = nw := ⟨_, rfl⟩
  rw [hn] at hr hna
  have H47 := Lib.hid (read_u hD hB hr (by omega) hM)
  have HN := Lib.hid hn
  have hna1 : (nw : Int) ≤ 12 := by omega
  clear hPost hy hyl hap hs hx hxl hxp hw hK hD hB hr hne hn
  conv => arg 2; whnf
  go_upto_region 23 with fail
  rename_i K1 a1 K2 a2
  have HKS := Lib.hid a1
  clear a1
  go_wp2_with fail
  refine H47.out.mono ?_
  rintro e w1 ⟨rfl, hw1⟩
  have hbi : But (fun q => q = BI) w w1 := by
    rw [hw1]
    exact (But.refl _ w).setCell _ _ (fun _ => rfl)
  obtain ⟨p1', hp1⟩ : ∃ p, pos + (uvarint nw).length = p := ⟨_, rfl⟩
  have hB1 : BiAt w1 BI p1' := by
    rw [hw1, hp1]
    exact HK.out.2.2.1.set p1'
  have hK1 : KeptAt w1 S k (.map none) (.map none) := (hbi.block S (lt_of_heap HK.out.1) HNE.out.1).trans HK.out.1
  have hD1 := HK.out.2.1.but hbi (fun e => HNE.out.2.2.2.1 e.symm) (fun e => HNE.out.2.2.2.2 e.symm)
  have hr1 : all.drop p1' = encP k ws ++ (uvarint ys.length ++ ys.flatMap (encAg k)) := by
    rw [← hp1, ← List.drop_drop, HK.out.2.2.2, HN.out, List.drop_left]
  have H1 := Lib.hid (And.intro hbi (And.intro hB1 (And.intro hK1 (And.intro hD1 hr1))))
  clear hw1 hB1 hbi hK1 hD1 hr1 H47 hp1
  by_cases hz : nw = 0
  · have hws : ws = [] := List.eq_nil_of_length_eq_zero (by rw [HN.out]; exact hz)
    have hkw : k.waits = [] := by
      have h1 := HU.out.1
      rw [hws] at h1
      exact List.nil_perm.1 h1
    have HZ := Lib.hid (And.intro hws hkw)
    subst hz
    clear hws hkw
    go_wp2_with fail
    refine HKS.out _ _ ?_
    refine dec46 S BI BX bb N M p1' k ag ys (.map none) all w1 _ _ _ _ _ _ _ _ _ _ _ _ _ _ _ _ _ _ _ _ _ _ _ _ _ _ _ _ _ _ _ _ _ _ _ _ _ _ _ _ _ _ _ _ _ _ _ _ _ _ _ _ _ _ _ _ _ _ _ _ _ _ _ _ _ _ _ _ _ _ _ _ _ _ _ _ _ _ _ _ _ _ _ _ _ _ _ _ _ _ _ _ _ _ _ _ _ _ _ _ _ _ _ _ _ _ _ _ _ _ _ _ _ _ _ _ _ _ _ _ _ _ _ _ _ _ _ _ _ _ _ _ _ _ _ _ _ _ _ _ _ _ _ _ _ _ _ _ _ _ _ _ _ _ _ _ _ _ _ _ _ _ _ _ _ _ _ _ _ _ _ _ _ _ _ _ _ _ _ _ _ _ _ _ _ _ _ _ _ _ _ _ _ _ _ _ _ _ _ _ _ _ _ _ _ _ _ _ _ _ _ _ _ _ _ _ _ _ _ _ _ Post H1.out.2.2.1 H1.out.2.2.2.1 H1.out.2.1 (by have h := H1.out.2.2.2.2; rw [HZ.out.1] at h; simpa [encP] using h) hM HNE.out HY.out.1 HY.out.2.1 HY.out.2.2.1 HY.out.2.2.2 (fun rv w' h1 h2 h3 h4 => ?_)
    have h5 := H1.out.1
    exact HP.out (.map none) rv w' h1 (Or.inl ⟨rfl, HZ.out.2⟩) h2 h3 ((h5.mono (fun _ _ h => Or.inr (Or.inl h))).then h4 (fun q hq h => by
      rcases h with h | h | h
      · exact Or.inl h
      · exact Or.inr (Or.inl h)
      · have := h5.size; omega))
  · have hwne : ws ≠ [] := fun e => by
      have h1 := HN.out
      rw [e] at h1
      exact hz h1.symm
    obtain ⟨tl, htl⟩ : ∃ tl, uvarint ys.length ++ ys.flatMap (encAg k) = tl := ⟨_, rfl⟩
    have hr1 : all.drop p1' = uvarint (zigzag 0) ++ (ws.flatMap (encWt k) ++ tl) := by
      have h := H1.out.2.2.2.2
      rw [htl] at h
      unfold encP at h
      rw [if_neg hwne, List.append_assoc] at h
      exact h
    have H49 := Lib.hid (read_v H1.out.2.2.2.1 H1.out.2.1 hr1 (by omega) (by omega) hM)
    have HT := Lib.hid (And.intro htl (And.intro hr1 hwne))
    have hz1 : (0 : Int) < (nw : Int) := by omega
    clear hwne htl hr1 hz
    go_wp2_with fail
    refine H49.out.mono ?_
    rintro e w2 ⟨rfl, hw2⟩
    have hbi2 : But (fun q => q = BI) w1 w2 := by
      rw [hw2]
      exact (But.refl _ w1).setCell _ _ (fun _ => rfl)
    obtain ⟨p2', hp2⟩ : ∃ p, p1' + (uvarint (zigzag 0)).length = p := ⟨_, rfl⟩
    have hB2 : BiAt w2 BI p2' := by
      rw [hw2, hp2]
      exact H1.out.2.1.set p2'
    have hK2 : KeptAt w2 S k (.map none) (.map none) := (hbi2.block S (lt_of_heap H1.out.2.2.1) HNE.out.1).trans H1.out.2.2.1
    have hD2 := H1.out.2.2.2.1.but hbi2 (fun e => HNE.out.2.2.2.1 e.symm) (fun e => HNE.out.2.2.2.2 e.symm)
    have hr2 : all.drop p2' = ws.flatMap (encWt k) ++ tl := by
      rw [← hp2, ← List.drop_drop, HT.out.2.1, List.drop_left]
    have hbw2 : But (fun q => q = S ∨ q = BI ∨ w.heap.size ≤ q) w w2 := (H1.out.1.trans hbi2).mono (fun _ _ h => Or.inr (Or.inl h))
    have hmm := run_makeMap_u79
    have c4 := past (KeptAt.c4 hK2)
    have f4 : ∀ o, (w2.alloc o).frozen? ⟨S, 4, none⟩ = false := fun o => thawed ((Below.heap_alloc _ _ _ (lt_of_heap hK2)).trans hK2) 4
    have hS2 := lt_of_heap hK2
    have hrel0 : D1Rel S BI BX bb N M w k w2.heap.size all tl ws 0 p2' ((w2.alloc (.map #[] 0)).setCell ⟨S, 4, none⟩ (.map (some w2.heap.size))) := by
      have hbA : But (fun q => q = S) w2 ((w2.alloc (.map #[] 0)).setCell ⟨S, 4, none⟩ (.map (some w2.heap.size))) := ((But.refl _ w2).alloc _).setCell _ _ (fun _ => rfl)
      exact {
        bt := hbw2.trans (hbA.mono (fun _ _ h => Or.inl h))
        st := K.heap_setCell_at ((Below.heap_alloc _ _ _ hS2).trans hK2) _
        da := hD2.but hbA (fun e => HNE.out.2.1 e.symm) (fun e => HNE.out.2.2.1 e.symm)
        bi := (hbA.block BI (lt_of_heap hB2) (fun e => HNE.out.1 e.symm)).trans hB2
        mp := ⟨_, PMap.empty ((World.ownsMap_made w2 Tryd.prog 25 PtrE).setCell (a := ⟨S, 4, none⟩) (fun e => by have : w2.heap.size = S := e; omega) _)⟩
        rs := by rw [List.drop_zero]; exact hr2 }
    have hW2 := hbw2.size
    have HR0 := Lib.hid hrel0
    clear hrel0 hS2 hw2 hp2 hbi2 hB2 hK2 hD2 hr2 hbw2 H49
    go_wp2_with fail
    have hzd : decide (0 < nw) = true := by simp; omega
    try rw [hzd]
    clear c4 f4 hmm hzd
    generalize hbb : w2.heap.size = b at HR0 hW2
    clear hbb
    go_loopw [14, 15, 16, 17] (fun i _ _ _ wr => ∃ (j pp : Nat), j ≤ nw ∧ i = .int .i64 (j : Int) ∧ Hid (D1Rel S BI BX bb N M w k b all tl ws j pp wr)) (fun i _ _ _ _ => nw - (intOf i).toNat)
    case atStart => exact ⟨0, p2', by omega, rfl, HR0⟩
    case round =>
      obtain ⟨j, pp, hj, rfl, HR⟩ := hrel
      by_cases hlt : j < nw
      · as_aux_lemma =>
        have hjl : j < ws.length := by rw [HN.out]; exact hlt
        obtain ⟨x, hxe⟩ : ∃ x, ws[j] = x := ⟨_, rfl⟩
        have hxs := HU.out.2.2.2 x (by rw [← hxe]; exact List.getElem_mem hjl)
        obtain ⟨tq, htq⟩ : ∃ tq : Int, 0 - x.t / 1000000000 = tq := ⟨_, rfl⟩
        have hrs : all.drop pp = uvarint (x.s - k.fs) ++ (uvarint (x.c - k.fc) ++ (uvarint (zigzag tq) ++ ((ws.drop (j + 1)).flatMap (encWt k) ++ tl))) := by
          rw [HR.out.rs, List.drop_eq_getElem_cons hjl, List.flatMap_cons, hxe, ← htq]
          simp [encWt, List.append_assoc]
        have H47a := Lib.hid (read_u HR.out.da HR.out.bi hrs (by omega) hM)
        have hj0 : (0 : Int) ≤ (j : Int) := by omega
        have hj1 : (j : Int) < (nw : Int) := by omega
        have hxq : ws[j]? = some x := List.getElem?_eq_some_iff.2 ⟨hjl, hxe⟩
        have HX := Lib.hid (And.intro hlt (And.intro hxq (And.intro hxs (And.intro hrs htq))))
        clear hlt hjl hxe hxs hrs hxq htq
        go_wp2_with fail
        refine H47a.out.mono ?_
        rintro e v2 ⟨rfl, hv2⟩
        obtain ⟨q2, hq2⟩ : ∃ p, pp + (uvarint (x.s - k.fs)).length = p := ⟨_, rfl⟩
        have hbi2 : But (fun q => q = BI) wr v2 := by
          rw [hv2]
          exact (But.refl _ wr).setCell _ _ (fun _ => rfl)
        have hB2 : BiAt v2 BI q2 := by
          rw [hv2, hq2]
          exact HR.out.bi.set q2
        have hD2 := HR.out.da.but hbi2 (fun e => HNE.out.2.2.2.1 e.symm) (fun e => HNE.out.2.2.2.2 e.symm)
        have hr2 : all.drop q2 = uvarint (x.c - k.fc) ++ (uvarint (zigzag tq) ++ ((ws.drop (j + 1)).flatMap (encWt k) ++ tl)) := by
          rw [← hq2, ← List.drop_drop, HX.out.2.2.2.1, List.drop_left]
        have H47b := Lib.hid (read_u hD2 hB2 hr2 (by have := HX.out.2.2.1; omega) hM)
        have H2 := Lib.hid (And.intro hbi2 (And.intro hB2 (And.intro hD2 hr2)))
        clear hv2 hq2 hbi2 hB2 hD2 hr2 H47a
        go_wp2_with fail
        refine H47b.out.mono ?_
        rintro e v3 ⟨rfl, hv3⟩
        obtain ⟨q3, hq3⟩ : ∃ p, q2 + (uvarint (x.c - k.fc)).length = p := ⟨_, rfl⟩
        have hbi3 : But (fun q => q = BI) v2 v3 := by
          rw [hv3]
          exact (But.refl _ v2).setCell _ _ (fun _ => rfl)
        have hB3 : BiAt v3 BI q3 := by
          rw [hv3, hq3]
          exact H2.out.2.1.set q3
        have hD3 := H2.out.2.2.1.but hbi3 (fun e => HNE.out.2.2.2.1 e.symm) (fun e => HNE.out.2.2.2.2 e.symm)
        have hr3 : all.drop q3 = uvarint (zigzag tq) ++ ((ws.drop (j + 1)).flatMap (encWt k) ++ tl) := by
          rw [← hq3, ← List.drop_drop, H2.out.2.2.2, List.drop_left]
        have H49c := Lib.hid (read_v hD3 hB3 hr3 (by have := HX.out.2.2.1; have := HX.out.2.2.2.2; omega) (by have := HX.out.2.2.1; have := HX.out.2.2.2.2; omega) hM)
        have H3 := Lib.hid (And.intro (H2.out.1.trans hbi3) (And.intro hB3 (And.intro hD3 hr3)))
        clear hv3 hq3 hbi3 hB3 hD3 hr3 H47b
        go_wp2_with fail
        refine H49c.out.mono ?_
        rintro e v4 ⟨rfl, hv4⟩
        obtain ⟨q4, hq4⟩ : ∃ p, q3 + (uvarint (zigzag tq)).length = p := ⟨_, rfl⟩
        have hbi4 : But (fun q => q = BI) v3 v4 := by
          rw [hv4]
          exact (But.refl _ v3).setCell _ _ (fun _ => rfl)
        have hB4 : BiAt v4 BI q4 := by
          rw [hv4, hq4]
          exact H3.out.2.1.set q4
        have hD4 := H3.out.2.2.1.but hbi4 (fun e => HNE.out.2.2.2.1 e.symm) (fun e => HNE.out.2.2.2.2 e.symm)
        have hr4 : all.drop q4 = (ws.drop (j + 1)).flatMap (encWt k) ++ tl := by
          rw [← hq4, ← List.drop_drop, H3.out.2.2.2, List.drop_left]
        have hbi := H3.out.1.trans hbi4
        have hK4 : KeptAt v4 S k (.map (some b)) (.map none) := (hbi.block S (lt_of_heap HR.out.st) HNE.out.1).trans HR.out.st
        obtain ⟨D, hmp⟩ := HR.out.mp
        have hbne : b ≠ BI := fun e => by
          obtain ⟨es, clock, hm, _⟩ := hmp.own
          have h1 := HR.out.bi
          subst e
          rw [show wr.heap[b]? = _ from h1] at hm
          cases hm
        have hbS : b ≠ S := fun e => by
          obtain ⟨es, clock, hm, _⟩ := hmp.own
          have h1 := HR.out.st
          subst e
          rw [show wr.heap[b]? = _ from h1] at hm
          cases hm
        have hbX : b ≠ BX := fun e => by
          obtain ⟨es, clock, hm, _⟩ := hmp.own
          have h1 := HR.out.da.bx
          subst e
          rw [h1] at hm
          cases hm
        have hbB : b ≠ bb := fun e => by
          obtain ⟨es, clock, hm, _⟩ := hmp.own
          have hpos : 0 < all.length := by
            have h1 := congrArg List.length HX.out.2.2.2.1
            have h2 := uvarint_pos (x.s - k.fs)
            rw [List.length_drop, List.length_append] at h1
            omega
          have h1 := HR.out.da.got 0 hpos
          subst e
          simp [World.cell?, hm] at h1
        have hm4 := hmp.but hbi hbne (fun p cs f e => by rw [e]; exact bi93 HR.out.bi cs f)
        obtain ⟨v5, hrun, hown5, hg5⟩ := (hm4.own.alloc (.cells #[.int .u64 (x.c : Int), .int .i64 x.t] 93)).update K25 Tryd.underlying79 (by unfold maxLen; omega) (key_of (s := x.s) (by have := HX.out.2.2.1; omega)) (val := .pointer (some ⟨v4.heap.size, 0, none⟩)) (d := .lit (.int .u64 (v4.heap.size : Int))) (ps := []) rfl
        have d2 := KeptAt.c2 hK4
        have d3 := KeptAt.c3 hK4
        have d4 := KeptAt.c4 hK4
        have d4' := past (KeptAt.c4 hK4)
        have b4 : v4.cell? ⟨BI, 0, none⟩ = some (.int .i64 (q4 : Int)) := cell_of hB4 rfl
        obtain ⟨sd, hsd⟩ : ∃ sd, x.s - k.fs = sd := ⟨_, rfl⟩
        obtain ⟨cd, hcd⟩ : ∃ cd, x.c - k.fc = cd := ⟨_, rfl⟩
        have hsum : (sd : Int) + (k.fs : Int) = (x.s : Int) := by have := HX.out.2.2.1; omega
        have hsum2 : (cd : Int) + (k.fc : Int) = (x.c : Int) := by have := HX.out.2.2.1; omega
        have hxb : (x.s : Int) ≤ 9223372036854775807 := by have := HX.out.2.2.1; omega
        have hcb : (x.c : Int) ≤ 9223372036854775807 := by have := HX.out.2.2.1; omega
        have hsp : ¬ ((x.s : Int) = 0) := by have := HX.out.2.2.1; omega
        have hsp' : ¬ (x.s = 0) := by have := HX.out.2.2.1; omega
        have ht0 : tq ≤ 0 := by have := HX.out.2.2.1; have := HX.out.2.2.2.2; omega
        have ht1 : -1152921505 ≤ tq := by have := HX.out.2.2.1; have := HX.out.2.2.2.2; omega
        have ht2 : (0 - tq) * 1000000000 = x.t := by have := HX.out.2.2.1; have := HX.out.2.2.2.2; omega
        have ht3 : -tq * 1000000000 = x.t := by omega
        have ht4 : (0 : Int) ≤ x.t ∧ x.t ≤ 1152921504606846976 := by have := HX.out.2.2.1; omega
        have ht5 := ht4.1
        have ht6 := ht4.2
        have hq4m : ¬ ((q4 : Int) = -1) := by omega
        have hb5 : But (fun q => q = b) v4 v5 := ((But.refl (fun q => q = b) v4).alloc _).grown hg5 (fun q hq _ => (Option.some.inj hq).symm)
        have hv4l := hm4.own.lt
        have hsz5 : (v4.alloc (.cells #[.int .u64 (x.c : Int), .int .i64 x.t] 93)).heap.size = v4.heap.size + 1 := by simp
        have hrel : D1Rel S BI BX bb N M w k b all tl ws (j + 1) q4 v5 :=
          { bt := (HR.out.bt.trans (hbi.mono (fun _ _ h => Or.inr (Or.inl h)))).then hb5 (fun q _ h => Or.inr (Or.inr (by rw [h]; exact hW2)))
            st := (hb5.block S (lt_of_heap hK4) (fun e => hbS e.symm)).trans hK4
            da := hD4.but hb5 (fun e => hbX e.symm) (fun e => hbB e.symm)
            bi := (hb5.block BI (lt_of_heap hB4) (fun e => hbne e.symm)).trans hB4
            mp := by
              obtain ⟨hjl, hxe⟩ := List.getElem?_eq_some_iff.1 HX.out.2.1
              subst hxe
              refine ⟨_, hm4.put hown5 (fun q y hq => ?_) ?_ (mem_take_more hjl) (apart_takeW HU.out.2.2.1 hjl)⟩
              · have h2 : PCell (v4.alloc (.cells #[.int .u64 (ws[j].c : Int), .int .i64 ws[j].t] 93)) q y := (Below.heap_alloc _ _ _ (lt_of_heap hq)).trans hq
                exact pcell_grown hg5 (fun q cs f e => by cases e; exact not93_map (hm4.own.alloc (.cells #[.int .u64 (ws[j].c : Int), .int .i64 ws[j].t] 93)) cs f) h2
              · exact (hg5.block _ (by rw [hsz5]; omega) (fun e => by have := Option.some.inj e; omega)).trans (boxed_cell v4 _ _)
            rs := hr4 }
        have HF := Lib.hid hrel
        have HLT := Lib.hid HX.out.1
        rw [hsd, hcd]
        clear hv4 hq4 hbi4 hB4 hD4 hr4 hbi hK4 hmp hbne hm4 hown5 hg5 hsd hcd hbS hbX hbB hb5 hrel H49c ht4 hv4l hsz5
        go_wp2_with fail
        have hlt := HLT.out
        exact ⟨⟨j + 1, q4, by omega, by go_num, HF⟩, by simp [intOf]; omega⟩
      · as_aux_lemma =>
        obtain rfl : j = nw := by omega
        have HZ := Lib.hid hlt
        clear hlt
        go_wp2_with fail
        refine HKS.out _ _ ?_
        have hdr : all.drop pp = uvarint ys.length ++ ys.flatMap (encAg k) := by
          have h1 := HR.out.rs
          rw [show ws.drop j = [] from List.drop_of_length_le (by rw [HN.out]; omega), List.flatMap_nil, List.nil_append] at h1
          rw [h1, HT.out.1]
        refine dec46 S BI BX bb N M pp k ag ys (.map (some b)) all wr _ _ _ _ _ _ _ _ _ _ _ _ _ _ _ _ _ _ _ _ _ _ _ _ _ _ _ _ _ _ _ _ _ _ _ _ _ _ _ _ _ _ _ _ _ _ _ _ _ _ _ _ _ _ _ _ _ _ _ _ _ _ _ _ _ _ _ _ _ _ _ _ _ _ _ _ _ _ _ _ _ _ _ _ _ _ _ _ _ _ _ _ _ _ _ _ _ _ _ _ _ _ _ _ _ _ _ _ _ _ _ _ _ _ _ _ _ _ _ _ _ _ _ _ _ _ _ _ _ _ _ _ _ _ _ _ _ _ _ _ _ _ _ _ _ _ _ _ _ _ _ _ _ _ _ _ _ _ _ _ _ _ _ _ _ _ _ _ _ _ _ _ _ _ _ _ _ _ _ _ _ _ _ _ _ _ _ _ _ _ _ _ _ _ _ _ _ _ _ _ _ _ _ _ _ _ _ _ _ _ _ _ _ _ _ _ _ _ _ _ _ Post HR.out.st HR.out.da HR.out.bi hdr hM HNE.out HY.out.1 HY.out.2.1 HY.out.2.2.1 HY.out.2.2.2 (fun rv w' h1 h2 h3 h4 => ?_)
        obtain ⟨D, hmp⟩ := HR.out.mp
        have hp1 : PMap wr b 12 D k.waits := by
          rw [show ws.take j = ws from by rw [← HN.out, List.take_length]] at hmp
          exact ⟨hmp.own.mono (by omega), fun x hx => hmp.at_ x (HU.out.1.mem_iff.2 hx), fun kl hkl => by
            obtain ⟨x, hx, e⟩ := hmp.only kl hkl
            exact ⟨x, HU.out.1.mem_iff.1 hx, e⟩⟩
        have hbl := hp1.own.lt
        have hp2 : PMap w' b 12 D k.waits := hp1.but h4 (fun h => by
          rcases h with h | h | h
          · obtain ⟨es, clock, hm, _⟩ := hp1.own
            rw [h, show wr.heap[S]? = _ from HR.out.st] at hm
            cases hm
          · obtain ⟨es, clock, hm, _⟩ := hp1.own
            rw [h, show wr.heap[BI]? = _ from HR.out.bi] at hm
            cases hm
          · omega) (fun p cs f h => by
          rcases h with h | h | h
          · rw [h]; exact HR.out.st.not93 cs f
          · rw [h]; exact bi93 HR.out.bi cs f
          · intro e
            have := lt_of_heap e
            omega)
        exact HP.out (.map (some b)) rv w' h1 (Or.inr ⟨b, D, rfl, hp2⟩) h2 h3 (HR.out.bt.then h4 (fun q hq h => by
          rcases h with h | h | h
          · exact Or.inl h
          · exact Or.inr (Or.inl h)
          · have := HR.out.bt.size; omega))
end Go.Proofs.YtchphfdoneckeaaDoor
