/-
  encodeConsumerState: what waits, and its end.
-/
import Derived.Test.YtchphfdoneckeaaDoorE4
namespace Go.Proofs.YtchphfdoneckeaaDoor
open Go.RowKit Go.Lib
open Cs (Wt Kp Ag)

theorem encWt_len {k : Kp} {x : Wt} (h : x.s < 18446744073709551616 ∧ x.c < 18446744073709551616 ∧ 0 ≤ x.t ∧ x.t ≤ 1152921504606846976) : (encWt k x).length ≤ 30 := by
  have h1 := uvarint_length64 (x := x.s - k.fs) (by omega)
  have h2 := uvarint_length64 (x := x.c - k.fc) (by omega)
  have h3 := uvarint_length64 (x := zigzag (0 - x.t / 1000000000)) (by unfold zigzag; split <;> omega)
  unfold encWt
  rw [List.length_append, List.length_append]; omega
/-- the first loop -/
structure E2Rel (w : World) (bb M it b nm : Nat) (D : DataW Unit) (k : Kp) (out : List UInt8) (left : Lit → Bool) (cnt : Nat) (xs : List Wt) (wr : World) : Prop where
  rg : wr.ranges Tryd.prog 25 PtrE b it nm D left cnt
  src : PMap wr b nm D k.waits
  has : ∀ kl, left kl = true → Maps.has D kl = true
  enc : EncAt wr bb M (out ++ xs.flatMap (encWt k))
  perm : xs.Perm (come k.waits left)
  bt : But (fun j => j = bb) w wr
/-- from what waits on -/
noncomputable def rest23 : Code := p2 (p2 (p2 (p2 (p2 (p2 (p2 (p2 (p2 (p2 (p2 (p2 (p2 (p2 (p2 (p2 (p2 (Tryd.f35.body.getD .skip)))))))))))))))))
set_option maxHeartbeats 8000000 in
set_option maxRecDepth 1000000 in
theorem enc23 (S bb M o nm na : Nat) (k : Kp) (ag : List Ag) (pv rv : Value) (out : List UInt8) (w : World) (x1 x2 x3 x5 x6 x7 x11 x12 x13 x14 x15 x16 x17 x18 x19 x20 x21 x22 x23 x24 x25 x26 x27 x28 x29 x30 x31 x32 x33 x34 x35 x36 x37 x38 x39 x40 x41 x42 x43 x44 x45 x46 x47 x48 x49 x50 x51 x52 x53 x54 x55 x56 x57 x58 x59 x60 x61 x62 x63 x64 x65 x66 x67 x68 x69 x70 x71 x72 x73 x74 x75 x76 x77 x78 x79 x80 x81 x82 x83 x84 x85 x86 x87 x88 x89 x90 x91 x92 x93 x94 x95 x96 x97 x98 x99 x100 x101 x102 x103 x104 x105 x106 x107 x108 x109 x110 x111 x112 x113 x114 x115 x116 x117 x118 x119 x120 x121 x122 x123 x124 x125 x126 x127 x128 x129 x130 x131 x132 x133 x134 x135 x136 x137 x138 x139 x140 x141 x142 x143 x144 x145 x146 x147 x148 x149 x150 x151 x152 x153 x154 x155 x156 x157 x158 x159 x160 x161 x162 x163 x164 x165 x166 x167 x168 x169 x170 x171 x172 x173 x174 x175 x176 x177 x178 x179 x180 x181 x182 x183 x184 x185 x186 x187 x188 x189 x190 x191 x192 x193 x194 x195 x196 x197 x198 x199 x200 x201 x202 x203 x204 x205 x206 x207 x208 x209 x210 x211 x212 x213 x214 x215 x216 x217 x218 x219 x220 : Value) (Post : Ending → World → Prop)
    (hK : KeptAt w S k pv rv) (hE : EncAt w bb M out) (ho : out.length = o) (hbS : bb ≠ S) (hM : o + (if k.waits = [] then 0 else 10 + 30 * k.waits.length) + 10 + 20 * ag.length ≤ M) (hM6 : M ≤ 1000000)
    (hP : (k.waits = [] ∧ pv = .map none) ∨ ∃ b D, pv = .map (some b) ∧ PMap w b nm D k.waits ∧ k.waits ≠ [])
    (hQ : (ag = [] ∧ rv = .map none) ∨ ∃ rb E, rv = .map (some rb) ∧ RMap w rb na E ag ∧ ag ≠ []) (hup : Cs.Up k.waits) (hu : Cs.AUp ag) (hs : ∀ x ∈ ag, k.fs < x.s ∧ x.s < 9223372036854775808 ∧ x.n < 9223372036854775808)
    (hw : ∀ x ∈ k.waits, k.fs < x.s ∧ x.s < 9223372036854775808 ∧ k.fc < x.c ∧ x.c < 9223372036854775808 ∧ 0 ≤ x.t ∧ x.t ≤ 1152921504606846976)
    (hPost : ∀ (xs : List Wt) (ys : List Ag) (w' : World), xs.Perm k.waits → ys.Perm ag → EncAt w' bb M (out ++ encP k xs ++ uvarint ag.length ++ ys.flatMap (encAg k)) → But (fun j => j = bb) w w' → Post (.returned (.slice (some ⟨bb, 0, none⟩) (out ++ encP k xs ++ uvarint ag.length ++ ys.flatMap (encAg k)).length M)) w') :
    Code.wp Tryd.prog rest23 (bodyPost Tryd.prog Tryd.f35 Post) ⟨#[.pointer (some ⟨S, 0, none⟩), x1, x2, x3, .slice (some ⟨bb, 0, none⟩) M M, x5, x6, x7, .int .i64 (o : Int), .int .u64 (k.fs : Int), .int .u64 (k.fc : Int), x11, x12, x13, x14, x15, x16, x17, x18, x19, x20, x21, x22, x23, x24, x25, x26, x27, x28, x29, x30, x31, x32, x33, x34, x35, x36, x37, x38, x39, x40, x41, x42, x43, x44, x45, x46, x47, x48, x49, x50, x51, x52, x53, x54, x55, x56, x57, x58, x59, x60, x61, x62, x63, x64, x65, x66, x67, x68, x69, x70, x71, x72, x73, x74, x75, x76, x77, x78, x79, x80, x81, x82, x83, x84, x85, x86, x87, x88, x89, x90, x91, x92, x93, x94, x95, x96, x97, x98, x99, x100, x101, x102, x103, x104, x105, x106, x107, x108, x109, x110, x111, x112, x113, x114, x115, x116, x117, x118, x119, x120, x121, x122, x123, x124, x125, x126, x127, x128, x129, x130, x131, x132, x133, x134, x135, x136, x137, x138, x139, x140, x141, x142, x143, x144, x145, x146, x147, x148, x149, x150, x151, x152, x153, x154, x155, x156, x157, x158, x159, x160, x161, x162, x163, x164, x165, x166, x167, x168, x169, x170, x171, x172, x173, x174, x175, x176, x177, x178, x179, x180, x181, x182, x183, x184, x185, x186, x187, x188, x189, x190, x191, x192, x193, x194, x195, x196, x197, x198, x199, x200, x201, x202, x203, x204, x205, x206, x207, x208, x209, x210, x211, x212, x213, x214, x215, x216, x217, x218, x219, x220], []⟩ w := by
  have HP := Lib.hid hPost
  have HU := Lib.hid (And.intro hu (And.intro hs (And.intro hup hw)))
  have HKE := Lib.hid (And.intro hK hE)
  have HQ := Lib.hid hQ
  have HO := Lib.hid ho
  have HM := Lib.hid hM
  have c4 : w.cell? ⟨S, 4, none⟩ = some pv := cell_of hK rfl
  clear hPost hu hs hup hw hK ho hM hQ
  conv => arg 2; whnf
  go_upto_region 23 with fail
  rename_i K1 a1 K2 a2
  have HKS := Lib.hid a1
  clear a1
  rcases hP with ⟨ha, hpv⟩ | ⟨b, D, hpv, hP, ha⟩
  · subst hpv
    have HA := Lib.hid ha
    have hln := fun (w : World) (ty : TypeId) => Maps.len_nil (w := w) Tryd.underlying79 ty
    clear hE ha
    go_wp2_with fail
    refine HKS.out _ _ ?_
    refine enc33 S bb M o na k ag _ rv out w _ _ _ _ _ _ _ _ _ _ _ _ _ _ _ _ _ _ _ _ _ _ _ _ _ _ _ _ _ _ _ _ _ _ _ _ _ _ _ _ _ _ _ _ _ _ _ _ _ _ _ _ _ _ _ _ _ _ _ _ _ _ _ _ _ _ _ _ _ _ _ _ _ _ _ _ _ _ _ _ _ _ _ _ _ _ _ _ _ _ _ _ _ _ _ _ _ _ _ _ _ _ _ _ _ _ _ _ _ _ _ _ _ _ _ _ _ _ _ _ _ _ _ _ _ _ _ _ _ _ _ _ _ _ _ _ _ _ _ _ _ _ _ _ _ _ _ _ _ _ _ _ _ _ _ _ _ _ _ _ _ _ _ _ _ _ _ _ _ _ _ _ _ _ _ _ _ _ _ _ _ _ _ _ _ _ _ _ _ _ _ _ _ _ _ _ _ _ _ _ _ _ _ _ _ _ _ _ _ _ _ _ _ _ _ _ Post HKE.out.1 HKE.out.2 HO.out hbS (by have := HM.out; rw [if_pos HA.out] at this; omega) hM6 HQ.out HU.out.1 HU.out.2.1 (fun ys w' hy he hb => ?_)
    have hR := HP.out [] ys w' (by rw [HA.out]) hy (by simpa [encP] using he) hb
    simpa [encP] using hR
  · subst hpv
    have hsz := hP.size_eq HU.out.2.2.1
    have hpos : 0 < k.waits.length := List.length_pos_iff.2 ha
    have hMM := HM.out
    rw [if_neg ha] at hMM
    obtain ⟨nw, hnw⟩ : ∃ nw, k.waits.length = nw := ⟨_, rfl⟩
    rw [hnw] at hsz hpos hMM
    have hln := fun ty => hP.own.len Tryd.underlying79 ty
    rw [hsz] at hln
    have hz : (0 : Int) < (nw : Int) := by omega
    have hoM : (o : Int) ≤ (M : Int) := by omega
    have hoM' : ¬ ((o : Int) = (M : Int)) := by omega
    have hoM2 : ¬ (o = M) := by omega
    have ho0 : (0 : Int) ≤ (o : Int) := by omega
    have hM0 : (M : Int) ≤ 1000000 := by omega
    have HMM := Lib.hid hMM
    have HPM := Lib.hid (And.intro hP (And.intro hnw (And.intro hsz ha)))
    have H52 : Hid (∀ (nn cc : Nat), nn = M - o → Calls Tryd.prog 52 #[.slice (some ⟨bb, o, none⟩) nn cc, .int .i64 0] w (PutPost bb M out (uvarint (zigzag 0)) w)) := Lib.hid fun nn cc hn => by
      exact put_v hE HO.out hn (by omega) (by omega) (by omega)
    clear hsz hnw hE ha hMM hP
    go_wp2_with fail
    (with_reducible refine (H52.out _ _ ?hn).mono ?_)
    case hn => rfl
    rintro e w3 ⟨rfl, h3, hb3⟩
    have hP3 : PMap w3 b nm D k.waits := HPM.out.1.but hb3 (fun e => by
      obtain ⟨es, clock, hm, _⟩ := HPM.out.1.own
      have h1 := (HKE.out.2.there 0 (by have := HMM.out; omega)).1
      subst e
      simp [World.cell?, hm] at h1) (fun p cs f e => by subst e; exact HKE.out.2.not93 cs f)
    have hbr : b ≠ bb := fun e => by
      obtain ⟨es, clock, hm, _⟩ := HPM.out.1.own
      have h1 := (HKE.out.2.there 0 (by have := HMM.out; omega)).1
      subst e
      simp [World.cell?, hm] at h1
    have d4 : w3.cell? ⟨S, 4, none⟩ = some (.map (some b)) := cell_of ((hb3.block S (lt_of_heap HKE.out.1) (fun e => hbS e.symm)).trans HKE.out.1) rfl
    obtain ⟨l3, hl3⟩ : ∃ l3, (uvarint (zigzag 0)).length = l3 := ⟨_, rfl⟩
    have hl3' : l3 ≤ 10 := by rw [← hl3]; exact uvarint_length64 (by decide)
    rw [hl3]
    have hown3 := hP3.own
    have q1 : (o : Int) + (l3 : Int) ≤ (M : Int) := by have := HMM.out; omega
    have q2 : (0 : Int) ≤ (o : Int) + (l3 : Int) := by omega
    have HL3 := Lib.hid (And.intro hl3 (And.intro hl3' hP3))
    have H3 := Lib.hid (And.intro h3 hb3)
    clear c4 hP3 hl3 hl3' hln h3 hb3 H52
    go_wp2_with (first | (at_range; refine wpList_range_own _ rfl _ 79 rfl 25 91 K25 Tryd.underlying79 PtrE b nm D rfl hown3 ?_; intro wk hrgk hgk hsk) | go_in)
    go_frame
    have HGK := Lib.hid (And.intro hrgk (And.intro hgk hsk))
    clear hrgk hgk hsk hown3 d4
    generalize hIT : w3.heap.size = it at HGK ⊢
    have HIT := Lib.hid hIT
    clear hIT
    go_loopw [8, 12, 13, 14] (fun nv _ _ _ wr => ∃ (left : Lit → Bool) (cnt : Nat) (xs : List Wt) (oo : Nat), nv = .int .i64 (oo : Int) ∧ Hid ((out ++ uvarint (zigzag 0) ++ xs.flatMap (encWt k)).length = oo ∧ E2Rel w3 bb M it b nm D k (out ++ uvarint (zigzag 0)) left cnt xs wr)) (fun _ _ _ _ wr => wr.rangeLeft b it)
    case atStart =>
      obtain ⟨hrgk, hgk, hsk⟩ := HGK.out
      have hbk : But (fun _ => False) w3 wk := (But.refl _ w3).grown hgk (fun _ h => by cases h)
      refine ⟨_, _, [], o + l3, by go_num, Lib.hid ⟨by rw [List.flatMap_nil, List.append_nil, List.length_append, HO.out, HL3.out.1], hrgk, HL3.out.2.2.but hbk (fun h => h) (fun _ _ _ h => h.elim), fun _ h => h, by rw [List.flatMap_nil, List.append_nil]; exact H3.out.1.but hbk (fun h => h), ?_, hbk.mono (fun _ _ h => h.elim)⟩⟩
      rw [come_start (fun x hx => HL3.out.2.2.has_of hx)]
    case round =>
      obtain ⟨left, cnt, xs, oo, rfl, HREL⟩ := hrel
      go_wp2_with (first
        | (at_next; refine wpList_next_pend _ rfl _ rfl b it nm D left cnt k.waits rfl HREL.out.2.src HREL.out.2.rg HREL.out.2.has ?_ ?_)
        | go_in)
      · intro hc0 hl0
        as_aux_lemma =>
        have hperm := HREL.out.2.perm
        rw [come_end hl0] at hperm
        have hbT : But (fun j => j = bb) w wr := H3.out.2.trans HREL.out.2.bt
        have hfl := flat_len (f := encWt k) (c := 30) xs (fun y hy => encWt_len (by
          have := HU.out.2.2.2 y (hperm.mem_iff.1 hy); omega))
        have hol := HREL.out.1
        rw [List.length_append, List.length_append, HO.out, HL3.out.1] at hol
        have hxl := hperm.length_eq
        have hMM := HMM.out
        have hl10 := HL3.out.2.1
        have hnw := HPM.out.2.1
        have hMo : oo + 10 + 20 * ag.length ≤ M := by omega
        have HD := Lib.hid (And.intro hperm (And.intro hbT hMo))
        clear hperm hbT hfl hol hxl hMM hl10 hMo hc0 hl0 hnw
        go_wp2_with fail
        refine HKS.out _ _ ?_
        have hQ : (ag = [] ∧ rv = .map none) ∨ ∃ rb E, rv = .map (some rb) ∧ RMap wr rb na E ag ∧ ag ≠ [] := by
          rcases HQ.out with h | ⟨rb, E, h1, h2, h3⟩
          · exact Or.inl h
          · refine Or.inr ⟨rb, E, h1, h2.but HD.out.2.1 (fun e => ?_), h3⟩
            obtain ⟨es, clock, hm, _⟩ := h2.own
            have h1 := (HKE.out.2.there 0 (by have := HMM.out; omega)).1
            subst e
            simp [World.cell?, hm] at h1
        have hKr : KeptAt wr S k (.map (some b)) rv := (HD.out.2.1.block S (lt_of_heap HKE.out.1) (fun e => hbS e.symm)).trans HKE.out.1
        refine enc33 S bb M oo na k ag _ rv (out ++ uvarint (zigzag 0) ++ xs.flatMap (encWt k)) wr _ _ _ _ _ _ _ _ _ _ _ _ _ _ _ _ _ _ _ _ _ _ _ _ _ _ _ _ _ _ _ _ _ _ _ _ _ _ _ _ _ _ _ _ _ _ _ _ _ _ _ _ _ _ _ _ _ _ _ _ _ _ _ _ _ _ _ _ _ _ _ _ _ _ _ _ _ _ _ _ _ _ _ _ _ _ _ _ _ _ _ _ _ _ _ _ _ _ _ _ _ _ _ _ _ _ _ _ _ _ _ _ _ _ _ _ _ _ _ _ _ _ _ _ _ _ _ _ _ _ _ _ _ _ _ _ _ _ _ _ _ _ _ _ _ _ _ _ _ _ _ _ _ _ _ _ _ _ _ _ _ _ _ _ _ _ _ _ _ _ _ _ _ _ _ _ _ _ _ _ _ _ _ _ _ _ _ _ _ _ _ _ _ _ _ _ _ _ _ _ _ _ _ _ _ _ _ _ _ _ _ _ _ _ _ _ Post hKr HREL.out.2.enc HREL.out.1 hbS HD.out.2.2 hM6 hQ HU.out.1 HU.out.2.1 (fun ys w' hy he hb => ?_)
        have hne : xs ≠ [] := fun e => by
          have h1 := HD.out.1
          rw [e] at h1
          exact HPM.out.2.2.2 (List.nil_perm.1 h1)
        have e : out ++ encP k xs = out ++ uvarint (zigzag 0) ++ xs.flatMap (encWt k) := by
          unfold encP
          rw [if_neg hne, List.append_assoc]
        have hR := HP.out xs ys w' HD.out.1 hy (by rw [e]; exact he) (HD.out.2.1.trans hb)
        rw [e] at hR
        exact hR
      · intro x p w1 cnt1 hx hpc hlx hrg1 hlt hg1 hs1 hen
        as_aux_lemma =>
        have hst := perm_step HU.out.2.2.1 HREL.out.2.perm hx hlx
        have hnw := HPM.out.2.1
        have hyl : xs.length + 1 ≤ nw := by
          have h1 := hst.length_eq
          have h2 := come_length k.waits (fun z => left z && !z.sameKey (key x.s))
          rw [List.length_append, List.length_singleton] at h1
          omega
        have hxs := HU.out.2.2.2 x hx
        have hfl := flat_len (f := encWt k) (c := 30) xs (fun y hy => encWt_len (by
          have := HU.out.2.2.2 y (List.mem_filter.1 (HREL.out.2.perm.mem_iff.1 hy)).1; omega))
        have hol := HREL.out.1
        rw [List.length_append, List.length_append, HO.out, HL3.out.1] at hol
        have hMM := HMM.out
        have hl10 := HL3.out.2.1
        have hMo : oo + 30 ≤ M := by omega
        have hitb : it ≠ bb := by have := HIT.out; have := H3.out.1.lt; omega
        have henc1 : EncAt w1 bb M (out ++ uvarint (zigzag 0) ++ xs.flatMap (encWt k)) := HREL.out.2.enc.but ((But.refl (fun j => j = it) wr).grown hg1 (fun q hq _ => (Option.some.inj hq).symm)) (fun e => hitb e.symm)
        have hpc1 : PCell w1 p x := pcell_grown hg1 (fun q cs f e => by cases e; exact not93_iter HREL.out.2.rg cs f) hpc
        have hpb : p ≠ bb := fun e => by
          subst e
          exact henc1.not93 _ _ hpc1
        have h51a : Hid (∀ (nn cc : Nat) (z : Int), nn = M - oo → z = ((x.s - k.fs : Nat) : Int) → Calls Tryd.prog 51 #[.slice (some ⟨bb, oo, none⟩) nn cc, .int .u64 z] w1 (PutPost bb M (out ++ uvarint (zigzag 0) ++ xs.flatMap (encWt k)) (uvarint (x.s - k.fs)) w1)) := Lib.hid fun nn cc z hn hz => by
          subst hz
          exact put_u henc1 HREL.out.1 hn (by omega) (by omega)
        have s0 : (0 : Int) ≤ (oo : Int) := by omega
        have s1 : (oo : Int) ≤ (M : Int) := by omega
        have s2 : ¬ (oo = M) := by omega
        have s3 : ¬ ((oo : Int) = (M : Int)) := by omega
        have HX := Lib.hid (And.intro hx (And.intro hlx (And.intro hrg1 (And.intro hlt (And.intro hg1 (And.intro hs1 (And.intro hst (And.intro hxs (And.intro hMo hpc1)))))))))
        clear hx hlx hrg1 hlt hg1 hs1 hst hxs hyl hfl hol hMM hl10 hMo henc1 hpc hpc1 hnw
        go_wp2_with fail
        (with_reducible refine (h51a.out _ _ _ ?hn ?hz).mono ?_)
        case hn => omega
        case hz => (have := HX.out.2.2.2.2.2.2.2.1; rw [IntKind.wrap_u64]; omega)
        rintro e w2 ⟨rfl, h2, hb2⟩
        obtain ⟨l1, hl1⟩ : ∃ l1, (uvarint (x.s - k.fs)).length = l1 := ⟨_, rfl⟩
        have hl1' : l1 ≤ 10 := by rw [← hl1]; exact uvarint_length64 (by have := HX.out.2.2.2.2.2.2.2.1; omega)
        rw [hl1]
        obtain ⟨o2, ho2⟩ : ∃ o2, oo + l1 = o2 := ⟨_, rfl⟩
        have ho2i : (oo : Int) + (l1 : Int) = (o2 : Int) := by omega
        have hpc2 : PCell w2 p x := (hb2.block p (lt_of_heap HX.out.2.2.2.2.2.2.2.2.2) hpb).trans HX.out.2.2.2.2.2.2.2.2.2
        have k0 : w2.cell? ⟨p, 0, none⟩ = some (.int .u64 (x.c : Int)) := cell_of hpc2 rfl
        have hMo2 : o2 + 20 ≤ M := by have := HX.out.2.2.2.2.2.2.2.2.1; omega
        have hlen2 : (out ++ uvarint (zigzag 0) ++ xs.flatMap (encWt k) ++ uvarint (x.s - k.fs)).length = o2 := by rw [List.length_append, HREL.out.1, hl1, ho2]
        have H2E := Lib.hid (And.intro h2 hlen2)
        have H2 := Lib.hid (And.intro hl1 (And.intro hb2 (And.intro hpc2 (And.intro ho2 hMo2))))
        clear h2 hb2 hl1 s0 s1 s2 s3 h51a hpc2 hlen2
        go_upto_region 30 with fail
        try rw [ho2i]
        have k0' := k0
        refine enc30 bb M o2 p k x (out ++ uvarint (zigzag 0) ++ xs.flatMap (encWt k) ++ uvarint (x.s - k.fs)) w2 _ _ _ _ _ _ _ _ _ _ _ _ _ _ _ _ _ _ _ _ _ _ _ _ _ _ _ _ _ _ _ _ _ _ _ _ _ _ _ _ _ _ _ _ _ _ _ _ _ _ _ _ _ _ _ _ _ _ _ _ _ _ _ _ _ _ _ _ _ _ _ _ _ _ _ _ _ _ _ _ _ _ _ _ _ _ _ _ _ _ _ _ _ _ _ _ _ _ _ _ _ _ _ _ _ _ _ _ _ _ _ _ _ _ _ _ _ _ _ _ _ _ _ _ _ _ _ _ _ _ _ _ _ _ _ _ _ _ _ _ _ _ _ _ _ _ _ _ _ _ _ _ _ _ _ _ _ _ _ _ _ _ _ _ _ _ _ _ _ _ _ _ _ _ _ _ _ _ _ _ _ _ _ _ _ _ _ _ _ _ _ _ _ _ _ _ _ _ _ _ _ _ _ _ _ _ _ _ _ _ _ _ _ _ _ _ _ _ _ _ Post H2E.out.1 H2E.out.2 hMo2 hM6 k0' HX.out.2.2.2.2.2.2.2.1.2.2.1 HX.out.2.2.2.2.2.2.2.1.2.2.2.1 (fun v148 v149 v150 v151 v152 v153 v154 v155 v156 v157 v158 v159 l2 w4 hl2 hl2' h4 hb4 => ?_)
        have H4 := Lib.hid (And.intro h4 hb4)
        clear h4
        have hpc4 : PCell w4 p x := (hb4.block p (lt_of_heap H2.out.2.2.1) hpb).trans H2.out.2.2.1
        have k1 : w4.cell? ⟨p, 1, none⟩ = some (.int .i64 x.t) := cell_of hpc4 rfl
        obtain ⟨o3, ho3⟩ : ∃ o3, o2 + l2 = o3 := ⟨_, rfl⟩
        have ho3i : (o2 : Int) + (l2 : Int) = (o3 : Int) := by omega
        obtain ⟨q, hq⟩ : ∃ q : Int, x.t / 1000000000 = q := ⟨_, rfl⟩
        have hq0 : 0 ≤ q := by have := HX.out.2.2.2.2.2.2.2.1; omega
        have hq1 : q ≤ 1152921505 := by have := HX.out.2.2.2.2.2.2.2.1; omega
        have hqt : x.t.tdiv 1000000000 = q := by rw [Int.tdiv_eq_ediv_of_nonneg (by have := HX.out.2.2.2.2.2.2.2.1; omega)]; exact hq
        have HV : Hid (∀ (nn cc : Nat) (z : Int), nn = M - o3 → z = 0 - q → Calls Tryd.prog 52 #[.slice (some ⟨bb, o3, none⟩) nn cc, .int .i64 z] w4 (PutPost bb M (out ++ uvarint (zigzag 0) ++ xs.flatMap (encWt k) ++ uvarint (x.s - k.fs) ++ uvarint (x.c - k.fc)) (uvarint (zigzag (0 - q))) w4)) := Lib.hid fun nn cc z hn hz => by
          subst hz
          exact put_v H4.out.1 (by rw [List.length_append, List.length_append, HREL.out.1, H2.out.1, hl2, H2.out.2.2.2.1, ho3]) hn (by omega) (by omega) (by have := H2.out.2.2.2.2; omega)
        have hMo3 : o3 + 10 ≤ M := by have := H2.out.2.2.2.2; omega
        have H5 := Lib.hid (And.intro hl2 (And.intro hb4 (And.intro hq (And.intro ho3 hMo3))))
        have v0 : (0 : Int) ≤ (o3 : Int) := by omega
        have v1 : (o3 : Int) ≤ (M : Int) := by omega
        have v2 : ¬ (o3 = M) := by omega
        have v3 : ¬ ((o3 : Int) = (M : Int)) := by omega
        have w1' : (o2 : Int) + (l2 : Int) ≤ (M : Int) := by omega
        have w0' : (0 : Int) ≤ (o2 : Int) + (l2 : Int) := by omega
        clear hl2 hb4 hq hpc4 k0 k0' ho2 ho2i hMo2
        go_upto_region 31 with fail
        try rw [ho3i]
        clear ho3 ho3i hMo3 w1' w0'
        go_wp2_with fail
        (with_reducible refine (HV.out _ _ _ ?hn ?hz).mono ?_)
        case hn => omega
        case hz => omega
        rintro e w5 ⟨rfl, h5, hb5⟩
        obtain ⟨l4, hl4⟩ : ∃ l4, (uvarint (zigzag (0 - q))).length = l4 := ⟨_, rfl⟩
        have hl4' : l4 ≤ 10 := by rw [← hl4]; exact uvarint_length64 (by unfold zigzag; split <;> omega)
        rw [hl4]
        have u1 : (o3 : Int) + (l4 : Int) ≤ (M : Int) := by have := H5.out.2.2.2.2; omega
        have u0 : (0 : Int) ≤ (o3 : Int) + (l4 : Int) := by omega
        have hbb : But (fun j => j = bb) w1 w5 := (H2.out.2.1.trans H5.out.2.1).trans hb5
        have hgr := hbb.grownBy (row := some bb) (fun j hj => by rw [hj])
        have hg1 := HX.out.2.2.2.2.1
        have hrbl := HL3.out.2.2.own.lt
        have henc5 : EncAt w5 bb M (out ++ uvarint (zigzag 0) ++ xs.flatMap (encWt k) ++ uvarint (x.s - k.fs) ++ uvarint (x.c - k.fc) ++ uvarint (zigzag (0 - q))) := h5
        have e : out ++ uvarint (zigzag 0) ++ (xs ++ [x]).flatMap (encWt k) = out ++ uvarint (zigzag 0) ++ xs.flatMap (encWt k) ++ uvarint (x.s - k.fs) ++ uvarint (x.c - k.fc) ++ uvarint (zigzag (0 - q)) := by
          simp [List.flatMap_append, encWt, List.append_assoc, H5.out.2.2.1]
        have hrel : E2Rel w3 bb M it b nm D k (out ++ uvarint (zigzag 0)) (fun z => left z && !z.sameKey (key x.s)) cnt1 (xs ++ [x]) w5 :=
          { rg := HX.out.2.2.1.kept hgr (fun e => hbr (Option.some.inj e)) (fun e => hitb (Option.some.inj e))
            src := (HREL.out.2.src.but ((But.refl (fun j => j = it) wr).grown hg1 (fun q hq _ => (Option.some.inj hq).symm)) (fun e => by have := HIT.out; omega) (fun p cs f e => by subst e; exact not93_iter HREL.out.2.rg cs f)).but hbb hbr (fun p cs f e => by
              subst e
              have hbw : But (fun j => j = it) wr w1 := (But.refl (fun j => j = it) wr).grown hg1 (fun q hq _ => (Option.some.inj hq).symm)
              exact (HREL.out.2.enc.but hbw (fun e => hitb e.symm)).not93 cs f)
            has := fun kl h => HREL.out.2.has kl (by simp at h; exact h.1)
            enc := by rw [e]; exact henc5
            perm := HX.out.2.2.2.2.2.2.1
            bt := (HREL.out.2.bt.grown hg1 (fun q hq hlt => by have := Option.some.inj hq; have := HIT.out; omega)).trans hbb }
        have hlen : (out ++ uvarint (zigzag 0) ++ (xs ++ [x]).flatMap (encWt k)).length = o3 + l4 := by
          rw [e, List.length_append, List.length_append, List.length_append, HREL.out.1, H2.out.1, H5.out.1, hl4, H2.out.2.2.2.1, H5.out.2.2.2.1]
        have hm1 := hrel.rg.left_eq
        have hm0 := HREL.out.2.rg.left_eq
        have HF := Lib.hid (And.intro hlen hrel)
        have HLT := Lib.hid HX.out.2.2.2.1
        clear h5 hb5 hl4 hbb hgr hg1 hrbl hrel hlen HV v2 v3 e henc5
        go_wp2_with fail
        exact ⟨⟨_, cnt1, _, o3 + l4, by go_num, HF⟩, by rw [hm1, hm0]; exact HLT.out⟩

end Go.Proofs.YtchphfdoneckeaaDoor
