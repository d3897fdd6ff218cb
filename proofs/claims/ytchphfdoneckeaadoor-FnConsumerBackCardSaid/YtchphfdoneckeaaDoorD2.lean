/-
  decodeConsumerState, its end: what was delivered again.
-/
import Derived.Test.YtchphfdoneckeaaDoorDc
import Derived.Test.YtchphfdoneckeaaDoorIn
import Derived.Test.YtchphfdoneckeaaDoorE3
namespace Go.Proofs.YtchphfdoneckeaaDoor
open Go.RowKit Go.Lib
open Cs (Wt Kp Ag)

theorem run_makeMap_u80 (w : World) (n : Int) : (Instr.makeMap 80 (some (.int .u64 n))).run Tryd.prog w = .ok (.map (some w.heap.size)) (w.alloc (.map #[] 0)) := by
  simp [Instr.makeMap, Tryd.runUnderlying80, asInt, Result.andThen]
  rfl
theorem run_makeMap_u79 (w : World) (n : Int) : (Instr.makeMap 79 (some (.int .u64 n))).run Tryd.prog w = .ok (.map (some w.heap.size)) (w.alloc (.map #[] 0)) := by
  simp [Instr.makeMap, Tryd.runUnderlying79, asInt, Result.andThen]
  rfl
theorem apart_take {l : List Ag} (h : l.Pairwise (fun a b => a.s ≠ b.s)) {j : Nat} (hj : j < l.length) : ∀ y ∈ l.take j, y.s ≠ l[j].s := fun y hy => by
  obtain ⟨i, hi, rfl⟩ := List.mem_take_iff_getElem.1 hy
  exact List.pairwise_iff_getElem.1 h i j (by omega) hj (by omega)
/-- the second loop -/
structure D2Rel (S BI BX bb N M : Nat) (W : World) (k : Kp) (pv : Value) (b : Nat) (all : List UInt8) (ys : List Ag) (j pos : Nat) (wr : World) : Prop where
  bt : But (fun q => q = S ∨ q = BI ∨ W.heap.size ≤ q) W wr
  st : KeptAt wr S k pv (.map (some b))
  da : DecAt wr BX bb N M all
  bi : BiAt wr BI pos
  mp : ∃ D, RMap wr b j D (ys.take j)
  rs : all.drop pos = (ys.drop j).flatMap (encAg k)
/-- from the count of what was delivered again on -/
noncomputable def drest46 : Code := p2 (p2 (p2 (p2 (p2 (p2 (p2 (p2 (p2 (p2 (p2 (p2 (p2 (p2 (p2 (p2 (p2 (Tryd.f34.body.getD .skip)))))))))))))))))
set_option maxHeartbeats 8000000 in
set_option maxRecDepth 1000000 in
theorem dec46 (S BI BX bb N M pos : Nat) (k : Kp) (ag ys : List Ag) (pv : Value) (all : List UInt8) (w : World) (x0 x2 x3 x5 x12 x13 x14 x15 x16 x17 x18 x19 x20 x21 x22 x23 x24 x25 x26 x27 x28 x29 x30 x31 x32 x33 x34 x35 x36 x37 x38 x39 x40 x41 x42 x43 x44 x45 x46 x47 x48 x49 x50 x51 x52 x53 x54 x55 x56 x57 x58 x59 x60 x61 x62 x63 x64 x65 x66 x67 x68 x69 x70 x71 x72 x73 x74 x75 x76 x77 x78 x79 x80 x81 x82 x83 x84 x85 x86 x87 x88 x89 x90 x91 x92 x93 x94 x95 x96 x97 x98 x99 x100 x101 x102 x103 x104 x105 x106 x107 x108 x109 x110 x111 x112 x113 x114 x115 x116 x117 x118 x119 x120 x121 x122 x123 x124 x125 x126 x127 x128 x129 x130 x131 x132 x133 x134 x135 x136 x137 x138 x139 x140 x141 x142 x143 x144 x145 x146 x147 x148 x149 x150 x151 x152 x153 x154 x155 x156 x157 x158 x159 x160 x161 x162 x163 x164 x165 x166 x167 x168 x169 x170 x171 x172 x173 x174 x175 x176 x177 x178 x179 x180 x181 x182 x183 x184 x185 x186 x187 x188 x189 x190 x191 x192 x193 x194 x195 x196 x197 x198 x199 x200 x201 x202 x203 x204 x205 x206 x207 x208 x209 x210 x211 x212 x213 x214 x215 x216 x217 x218 x219 x220 x221 x222 x223 x224 x225 x226 x227 x228 : Value) (Post : Ending → World → Prop)
    (hK : KeptAt w S k pv (.map none)) (hD : DecAt w BX bb N M all) (hB : BiAt w BI pos) (hr : all.drop pos = uvarint ys.length ++ ys.flatMap (encAg k)) (hM : M ≤ 1000000) (hne : S ≠ BI ∧ S ≠ BX ∧ S ≠ bb ∧ BI ≠ BX ∧ BI ≠ bb)
    (hy : ys.Perm ag) (hyl : ys.length ≤ 12) (hap : ys.Pairwise (fun a b => a.s ≠ b.s)) (hs : ∀ x ∈ ys, k.fs < x.s ∧ x.s < 9223372036854775808 ∧ 1 ≤ x.n ∧ x.n < 9223372036854775808)
    (hPost : ∀ (rv : Value) (w' : World), KeptAt w' S k pv rv → Redel w' rv 12 ag → (ag = [] → rv = .map none) → But (fun q => q = S ∨ q = BI ∨ w.heap.size ≤ q) w w' → Post (.returned (.tuple #[.pointer (some ⟨S, 0, none⟩), .nilIface])) w') :
    Code.wp Tryd.prog drest46 (bodyPost Tryd.prog Tryd.f34 Post) ⟨#[x0, .pointer (some ⟨BX, 0, none⟩), x2, x3, .int .u8 2, x5, .pointer (some ⟨BI, 0, none⟩), .func (.func 47) #[] #[.pointer (some ⟨BI, 0, none⟩), .pointer (some ⟨BX, 0, none⟩)], .func (.func 49) #[] #[.pointer (some ⟨BI, 0, none⟩), .pointer (some ⟨BX, 0, none⟩)], .func (.func 47) #[] #[.pointer (some ⟨BI, 0, none⟩), .pointer (some ⟨BX, 0, none⟩)], .func (.func 47) #[] #[.pointer (some ⟨BI, 0, none⟩), .pointer (some ⟨BX, 0, none⟩)], .pointer (some ⟨S, 0, none⟩), x12, x13, x14, x15, x16, x17, x18, x19, x20, x21, x22, x23, x24, x25, x26, x27, x28, x29, x30, x31, x32, x33, x34, x35, x36, x37, x38, x39, x40, x41, x42, x43, x44, x45, x46, x47, x48, x49, x50, x51, x52, x53, x54, x55, x56, x57, x58, x59, x60, x61, x62, x63, x64, x65, x66, x67, x68, x69, x70, x71, x72, x73, x74, x75, x76, x77, x78, x79, x80, x81, x82, x83, x84, x85, x86, x87, x88, x89, x90, x91, x92, x93, x94, x95, x96, x97, x98, x99, x100, x101, x102, x103, x104, x105, x106, x107, x108, x109, x110, x111, x112, x113, x114, x115, x116, x117, x118, x119, x120, x121, x122, x123, x124, x125, x126, x127, x128, x129, x130, x131, x132, x133, x134, x135, x136, x137, x138, x139, x140, x141, x142, x143, x144, x145, x146, x147, x148, x149, x150, x151, x152, x153, x154, x155, x156, x157, x158, x159, x160, x161, x162, x163, x164, x165, x166, x167, x168, x169, x170, x171, x172, x173, x174, x175, x176, x177, x178, x179, x180, x181, x182, x183, x184, x185, x186, x187, x188, x189, x190, x191, x192, x193, x194, x195, x196, x197, x198, x199, x200, x201, x202, x203, x204, x205, x206, x207, x208, x209, x210, x211, x212, x213, x214, x215, x216, x217, x218, x219, x220, x221, x222, x223, x224, x225, x226, x227, x228], []⟩ w := by
  have HP := Lib.hid hPost
  have HU := Lib.hid (And.intro hy (And.intro hyl (And.intro hap hs)))
  have HK := Lib.hid (And.intro hK (And.intro hD (And.intro hB hr)))
  have HNE := Lib.hid hne
  have hna := hyl
  obtain ⟨na, hn⟩ : ∃ na, ys.length = na := ⟨_, rfl⟩
  rw [hn] at hr hna
  have H47 := Lib.hid (read_u hD hB hr (by omega) hM)
  have HN := Lib.hid hn
  have hna1 : (na : Int) ≤ 12 := by omega
  clear hPost hy hyl hap hs hK hD hB hr hne hn
  conv => arg 2; whnf
  go_wp2_with fail
  refine H47.out.mono ?_
  rintro e w1 ⟨rfl, hw1⟩
  have hb1 : But (fun q => q = S ∨ q = BI ∨ w.heap.size ≤ q) w w1 := by
    rw [hw1]
    exact (But.refl _ w).setCell _ _ (fun _ => Or.inr (Or.inl rfl))
  obtain ⟨p1', hp1⟩ : ∃ p, pos + (uvarint na).length = p := ⟨_, rfl⟩
  have hB1 : BiAt w1 BI p1' := by
    rw [hw1, hp1]
    exact HK.out.2.2.1.set p1'
  have hbi : But (fun q => q = BI) w w1 := by
    rw [hw1]
    exact (But.refl _ w).setCell _ _ (fun _ => rfl)
  have hK1 : KeptAt w1 S k pv (.map none) := (hbi.block S (lt_of_heap HK.out.1) HNE.out.1).trans HK.out.1
  have hD1 := HK.out.2.1.but hbi (fun e => HNE.out.2.2.2.1 e.symm) (fun e => HNE.out.2.2.2.2 e.symm)
  have hr1 : all.drop p1' = ys.flatMap (encAg k) := by
    rw [← hp1, ← List.drop_drop, HK.out.2.2.2, HN.out, List.drop_left]
  have H1 := Lib.hid (And.intro hb1 (And.intro hB1 (And.intro hK1 (And.intro hD1 hr1))))
  clear hw1 hb1 hB1 hbi hK1 hD1 hr1 H47 hp1
  by_cases hz : na = 0
  · have hag : ag = [] := by
      have h1 := HU.out.1.length_eq
      rw [HN.out, hz] at h1
      exact List.eq_nil_of_length_eq_zero h1.symm
    have HZ := Lib.hid (And.intro hz hag)
    subst hz
    clear hag
    go_wp2_with fail

    exact HP.out (.map none) w1 H1.out.2.2.1 (Or.inl ⟨rfl, HZ.out.2⟩) (fun _ => rfl) H1.out.1
  · have hz1 : (0 : Int) < (na : Int) := by omega
    have HZ := Lib.hid hz
    have hmm := run_makeMap_u80
    have c5 := past (KeptAt.c5 H1.out.2.2.1)
    have f5 : ∀ o, (w1.alloc o).frozen? ⟨S, 5, none⟩ = false := fun o => thawed ((Below.heap_alloc _ _ _ (lt_of_heap H1.out.2.2.1)).trans H1.out.2.2.1) 5
    have hS1 := lt_of_heap H1.out.2.2.1
    have hrel0 : D2Rel S BI BX bb N M w k pv w1.heap.size all ys 0 p1' ((w1.alloc (.map #[] 0)).setCell ⟨S, 5, none⟩ (.map (some w1.heap.size))) := by
      have hbA : But (fun q => q = S) w1 ((w1.alloc (.map #[] 0)).setCell ⟨S, 5, none⟩ (.map (some w1.heap.size))) := ((But.refl _ w1).alloc _).setCell _ _ (fun _ => rfl)
      exact {
        bt := H1.out.1.trans (hbA.mono (fun _ _ h => Or.inl h))
        st := K.heap_setCell_at ((Below.heap_alloc _ _ _ hS1).trans H1.out.2.2.1) _
        da := H1.out.2.2.2.1.but hbA (fun e => HNE.out.2.1 e.symm) (fun e => HNE.out.2.2.1 e.symm)
        bi := (hbA.block BI (lt_of_heap H1.out.2.1) (fun e => HNE.out.1 e.symm)).trans H1.out.2.1
        mp := ⟨_, RMap.empty ((World.ownsMap_made w1 Tryd.prog 25 NumE).setCell (a := ⟨S, 5, none⟩) (fun e => by have : w1.heap.size = S := e; omega) _)⟩
        rs := by rw [List.drop_zero]; exact H1.out.2.2.2.2 }
    have HR0 := Lib.hid hrel0
    clear hrel0 hz hS1
    go_wp2_with fail
    have hzd : decide (0 < na) = true := by simp; omega
    try rw [hzd]
    clear c5 f5 hmm hzd
    have hW1 := H1.out.1.size
    generalize hbb : w1.heap.size = b at HR0 hW1
    clear hbb
    go_loopw [19, 20, 21] (fun i _ _ wr => ∃ (j pp : Nat), j ≤ na ∧ i = .int .i64 (j : Int) ∧ Hid (D2Rel S BI BX bb N M w k pv b all ys j pp wr)) (fun i _ _ _ => na - (intOf i).toNat)
    case atStart => exact ⟨0, p1', by omega, rfl, HR0⟩
    case round =>
      obtain ⟨j, pp, hj, rfl, HR⟩ := hrel
      by_cases hlt : j < na
      · as_aux_lemma =>
        have hjl : j < ys.length := by rw [HN.out]; exact hlt
        obtain ⟨x, hxe⟩ : ∃ x, ys[j] = x := ⟨_, rfl⟩
        have hxs := HU.out.2.2.2 x (by rw [← hxe]; exact List.getElem_mem hjl)
        have hrs : all.drop pp = uvarint (x.s - k.fs) ++ (uvarint x.n ++ (ys.drop (j + 1)).flatMap (encAg k)) := by
          rw [HR.out.rs, List.drop_eq_getElem_cons hjl, List.flatMap_cons, hxe]
          simp [encAg, List.append_assoc]
        have H47a := Lib.hid (read_u HR.out.da HR.out.bi hrs (by omega) hM)
        have hj0 : (0 : Int) ≤ (j : Int) := by omega
        have hj1 : (j : Int) < (na : Int) := by omega
        have hxq : ys[j]? = some x := List.getElem?_eq_some_iff.2 ⟨hjl, hxe⟩
        have HX := Lib.hid (And.intro hlt (And.intro hxq (And.intro hxs hrs)))
        clear hlt hjl hxe hxs hrs hxq
        go_wp2_with fail
        refine H47a.out.mono ?_
        rintro e w2 ⟨rfl, hw2⟩
        obtain ⟨p2', hp2⟩ : ∃ p, pp + (uvarint (x.s - k.fs)).length = p := ⟨_, rfl⟩
        have hbi2 : But (fun q => q = BI) wr w2 := by
          rw [hw2]
          exact (But.refl _ wr).setCell _ _ (fun _ => rfl)
        have hB2 : BiAt w2 BI p2' := by
          rw [hw2, hp2]
          exact HR.out.bi.set p2'
        have hD2 := HR.out.da.but hbi2 (fun e => HNE.out.2.2.2.1 e.symm) (fun e => HNE.out.2.2.2.2 e.symm)
        have hr2 : all.drop p2' = uvarint x.n ++ (ys.drop (j + 1)).flatMap (encAg k) := by
          rw [← hp2, ← List.drop_drop, HX.out.2.2.2, List.drop_left]
        have H47b := Lib.hid (read_u hD2 hB2 hr2 (by have := HX.out.2.2.1; omega) hM)
        have H2 := Lib.hid (And.intro hbi2 (And.intro hB2 (And.intro hD2 hr2)))
        clear hw2 hp2 hbi2 hB2 hD2 hr2 H47a
        go_wp2_with fail
        refine H47b.out.mono ?_
        rintro e w3 ⟨rfl, hw3⟩
        obtain ⟨p3', hp3⟩ : ∃ p, p2' + (uvarint x.n).length = p := ⟨_, rfl⟩
        have hbi3 : But (fun q => q = BI) w2 w3 := by
          rw [hw3]
          exact (But.refl _ w2).setCell _ _ (fun _ => rfl)
        have hB3 : BiAt w3 BI p3' := by
          rw [hw3, hp3]
          exact H2.out.2.1.set p3'
        have hD3 := H2.out.2.2.1.but hbi3 (fun e => HNE.out.2.2.2.1 e.symm) (fun e => HNE.out.2.2.2.2 e.symm)
        have hr3 : all.drop p3' = (ys.drop (j + 1)).flatMap (encAg k) := by
          rw [← hp3, ← List.drop_drop, H2.out.2.2.2, List.drop_left]
        have hbi := H2.out.1.trans hbi3
        have hK3 : KeptAt w3 S k pv (.map (some b)) := (hbi.block S (lt_of_heap HR.out.st) HNE.out.1).trans HR.out.st
        obtain ⟨D, hmp⟩ := HR.out.mp
        have hbne : b ≠ BI := fun e => by
          obtain ⟨es, clock, hm, _⟩ := hmp.own
          have h1 := HR.out.bi
          subst e
          rw [show wr.heap[b]? = _ from h1] at hm
          cases hm
        have hm3 := hmp.but hbi hbne
        obtain ⟨w4, hrun, hown4, hg4⟩ := hm3.own.update K25 Tryd.underlying80 (by unfold maxLen; omega) (key_of (s := x.s) (by have := HX.out.2.2.1; omega)) (numE (a := x.n) (by have := HX.out.2.2.1; omega))
        have d3 := KeptAt.c3 hK3
        have d5 := KeptAt.c5 hK3
        obtain ⟨sd, hsd⟩ : ∃ sd, x.s - k.fs = sd := ⟨_, rfl⟩
        have hsd1 : (0 : Int) < (sd : Int) := by have := HX.out.2.2.1; omega
        have hsd2 : 0 < sd := by omega
        have hsum : (sd : Int) + (k.fs : Int) = (x.s : Int) := by have := HX.out.2.2.1; omega
        have hxb : (x.s : Int) ≤ 9223372036854775807 := by have := HX.out.2.2.1; omega
        have hn1 : (0 : Int) < (x.n : Int) := by have := HX.out.2.2.1; omega
        have hn2 : 0 < x.n := by omega
        have hbS : b ≠ S := fun e => by
          obtain ⟨es, clock, hm, _⟩ := hmp.own
          have h1 := HR.out.st
          subst e
          rw [show wr.heap[b]? = _ from h1] at hm
          cases hm
        have hbX : b ≠ BX := fun e => by
          obtain ⟨es, clock, hm, _⟩ := hmp.own
          have h1 := HR.out.da.bx
          subst e
          rw [h1] at hm
          cases hm
        have hbB : b ≠ bb := fun e => by
          obtain ⟨es, clock, hm, _⟩ := hmp.own
          have hl := HR.out.da.len
          have hpos : 0 < all.length := by
            have h1 := congrArg List.length HX.out.2.2.2
            have h2 := uvarint_pos (x.s - k.fs)
            rw [List.length_drop, List.length_append] at h1
            omega
          have h1 := HR.out.da.got 0 hpos
          subst e
          simp [World.cell?, hm] at h1
        have hb4 : But (fun q => q = b) w3 w4 := (But.refl _ w3).grown hg4 (fun q hq _ => (Option.some.inj hq).symm)
        have hrel : D2Rel S BI BX bb N M w k pv b all ys (j + 1) p3' w4 :=
          { bt := (HR.out.bt.trans (hbi.mono (fun _ _ h => Or.inr (Or.inl h)))).then hb4 (fun q _ h => Or.inr (Or.inr (by rw [h]; exact hW1)))
            st := (hb4.block S (lt_of_heap hK3) (fun e => hbS e.symm)).trans hK3
            da := hD3.but hb4 (fun e => hbX e.symm) (fun e => hbB e.symm)
            bi := (hb4.block BI (lt_of_heap hB3) (fun e => hbne e.symm)).trans hB3
            mp := by
              obtain ⟨hjl, hxe⟩ := List.getElem?_eq_some_iff.1 HX.out.2.1
              subst hxe
              exact ⟨_, hm3.put hown4 (mem_take_more hjl) (apart_take HU.out.2.2.1 hjl)⟩
            rs := hr3 }
        have HF := Lib.hid hrel
        have HLT := Lib.hid HX.out.1
        rw [hsd]
        clear hw3 hp3 hbi3 hB3 hD3 hr3 hbi hK3 hmp hbne hm3 hown4 hg4 hsd hbS hbX hbB hb4 hrel H47b
        go_wp2_with fail
        have hlt := HLT.out
        exact ⟨⟨j + 1, p3', by omega, by go_num, HF⟩, by simp [intOf]; omega⟩
      · as_aux_lemma =>
        obtain rfl : j = na := by omega
        obtain ⟨D, hmp⟩ := HR.out.mp
        have hmp2 : RMap wr b 12 D ag := by
          have h1 := hmp.mono (n' := 12) (by omega)
          rw [← HN.out, List.take_length] at h1
          exact ⟨h1.own, fun x hx => h1.at_ x (HU.out.1.mem_iff.2 hx), fun kl hkl => by
            obtain ⟨x, hx, e⟩ := h1.only kl hkl
            exact ⟨x, HU.out.1.mem_iff.1 hx, e⟩⟩
        have hag : ag = [] → Value.map (some b) = .map none := fun e => by
          exfalso
          have h1 := HU.out.1.length_eq
          rw [HN.out, e] at h1
          simp at h1
          exact HZ.out h1
        have hR := HP.out (.map (some b)) wr HR.out.st (Or.inr ⟨b, D, rfl, hmp2⟩) hag HR.out.bt
        have HRR := Lib.hid hR
        clear hR hag hmp2 hmp hlt
        go_wp2_with fail
        exact HRR.out
end Go.Proofs.YtchphfdoneckeaaDoor
