/-
  encodeConsumerState: the header, and all of it.
-/
import Derived.Test.YtchphfdoneckeaaDoorE2
namespace Go.Proofs.YtchphfdoneckeaaDoor
open Go.RowKit Go.Lib
open Cs (Wt Kp Ag)

/-- from the header on -/
noncomputable def rest13 : Code := p2 (p2 (p2 (p2 (p2 (p2 (p2 (Tryd.f35.body.getD .skip)))))))
set_option maxHeartbeats 8000000 in
set_option maxRecDepth 1000000 in
theorem enc13 (S bb M nm na nw : Nat) (k : Kp) (ag : List Ag) (pv rv : Value) (w : World) (x1 x2 x3 x5 x6 x7 x8 x9 x10 x11 x12 x13 x14 x15 x16 x17 x18 x19 x20 x21 x22 x23 x24 x25 x26 x27 x28 x29 x30 x31 x32 x33 x34 x35 x36 x37 x38 x39 x40 x41 x42 x43 x44 x45 x46 x47 x48 x49 x50 x51 x52 x53 x54 x55 x56 x57 x58 x59 x60 x61 x62 x63 x64 x65 x66 x67 x68 x69 x70 x71 x72 x73 x74 x75 x76 x77 x78 x79 x80 x81 x82 x83 x84 x85 x86 x87 x88 x89 x90 x91 x92 x93 x94 x95 x96 x97 x98 x99 x100 x101 x102 x103 x104 x105 x106 x107 x108 x109 x110 x111 x112 x113 x114 x115 x116 x117 x118 x119 x120 x121 x122 x123 x124 x125 x126 x127 x128 x129 x130 x131 x132 x133 x134 x135 x136 x137 x138 x139 x140 x141 x142 x143 x144 x145 x146 x147 x148 x149 x150 x151 x152 x153 x154 x155 x156 x157 x158 x159 x160 x161 x162 x163 x164 x165 x166 x167 x168 x169 x170 x171 x172 x173 x174 x175 x176 x177 x178 x179 x180 x181 x182 x183 x184 x185 x186 x187 x188 x189 x190 x191 x192 x193 x194 x195 x196 x197 x198 x199 x200 x201 x202 x203 x204 x205 x206 x207 x208 x209 x210 x211 x212 x213 x214 x215 x216 x217 x218 x219 x220 : Value) (Post : Ending → World → Prop)
    (hK : KeptAt w S k pv rv) (hE : EncAt w bb M []) (hbS : bb ≠ S) (hM : 52 + (if k.waits = [] then 0 else 10 + 30 * k.waits.length) + 10 + 20 * ag.length ≤ M) (hM6 : M ≤ 1000000) (hnw : k.waits.length = nw)
    (hln : ∀ W', But (fun j => j = bb) w W' → ∀ ty, (Builtin.len_ #[79] ty #[pv]).run Tryd.prog W' = .ok (.int .i64 (nw : Int)) W')
    (hkn : k.fc < 9223372036854775808 ∧ k.fs < 9223372036854775808 ∧ k.dc < 9223372036854775808 ∧ k.ds < 9223372036854775808)
    (hP : (k.waits = [] ∧ pv = .map none) ∨ ∃ b D, pv = .map (some b) ∧ PMap w b nm D k.waits ∧ k.waits ≠ [])
    (hQ : (ag = [] ∧ rv = .map none) ∨ ∃ rb E, rv = .map (some rb) ∧ RMap w rb na E ag ∧ ag ≠ []) (hup : Cs.Up k.waits) (hu : Cs.AUp ag) (hs : ∀ x ∈ ag, k.fs < x.s ∧ x.s < 9223372036854775808 ∧ x.n < 9223372036854775808)
    (hw : ∀ x ∈ k.waits, k.fs < x.s ∧ x.s < 9223372036854775808 ∧ k.fc < x.c ∧ x.c < 9223372036854775808 ∧ 0 ≤ x.t ∧ x.t ≤ 1152921504606846976)
    (hPost : ∀ (xs : List Wt) (ys : List Ag) (w' : World), xs.Perm k.waits → ys.Perm ag → EncAt w' bb M (encHd k nw ++ encP k xs ++ uvarint ag.length ++ ys.flatMap (encAg k)) → But (fun j => j = bb) w w' → Post (.returned (.slice (some ⟨bb, 0, none⟩) (encHd k nw ++ encP k xs ++ uvarint ag.length ++ ys.flatMap (encAg k)).length M)) w') :
    Code.wp Tryd.prog rest13 (bodyPost Tryd.prog Tryd.f35 Post) ⟨#[.pointer (some ⟨S, 0, none⟩), x1, x2, x3, .slice (some ⟨bb, 0, none⟩) M M, x5, x6, x7, x8, x9, x10, x11, x12, x13, x14, x15, x16, x17, x18, x19, x20, x21, x22, x23, x24, x25, x26, x27, x28, x29, x30, x31, x32, x33, x34, x35, x36, x37, x38, x39, x40, x41, x42, x43, x44, x45, x46, x47, x48, x49, x50, x51, x52, x53, x54, x55, x56, x57, x58, x59, x60, x61, x62, x63, x64, x65, x66, x67, x68, x69, x70, x71, x72, x73, x74, x75, x76, x77, x78, x79, x80, x81, x82, x83, x84, x85, x86, x87, x88, x89, x90, x91, x92, x93, x94, x95, x96, x97, x98, x99, x100, x101, x102, x103, x104, x105, x106, x107, x108, x109, x110, x111, x112, x113, x114, x115, x116, x117, x118, x119, x120, x121, x122, x123, x124, x125, x126, x127, x128, x129, x130, x131, x132, x133, x134, x135, x136, x137, x138, x139, x140, x141, x142, x143, x144, x145, x146, x147, x148, x149, x150, x151, x152, x153, x154, x155, x156, x157, x158, x159, x160, x161, x162, x163, x164, x165, x166, x167, x168, x169, x170, x171, x172, x173, x174, x175, x176, x177, x178, x179, x180, x181, x182, x183, x184, x185, x186, x187, x188, x189, x190, x191, x192, x193, x194, x195, x196, x197, x198, x199, x200, x201, x202, x203, x204, x205, x206, x207, x208, x209, x210, x211, x212, x213, x214, x215, x216, x217, x218, x219, x220], []⟩ w := by
  have HP := Lib.hid (And.intro hP hQ)
  have HU := Lib.hid (And.intro hup (And.intro hu (And.intro hs (And.intro hw hkn))))
  have HPost := Lib.hid hPost
  have HLN := Lib.hid hln
  have HNW := Lib.hid hnw
  have HM := Lib.hid hM
  obtain ⟨u0, hu0⟩ := Option.isSome_iff_exists.1 (hE.there 0 (by omega)).1
  have f0 := (hE.there 0 (by omega)).2
  have he1 : EncAt (w.setCell ⟨bb, 0, none⟩ (.int .u8 22)) bb M [22] := hE.put [22] (by simp; omega)
  obtain ⟨u1, hu1⟩ := Option.isSome_iff_exists.1 (he1.there 1 (by omega)).1
  have f1 := (he1.there 1 (by omega)).2
  have he2 : EncAt ((w.setCell ⟨bb, 0, none⟩ (.int .u8 22)).setCell ⟨bb, 1, none⟩ (.int .u8 2)) bb M [22, 2] := he1.put [2] (by simp; omega)
  have hb2 : But (fun j => j = bb) w ((w.setCell ⟨bb, 0, none⟩ (.int .u8 22)).setCell ⟨bb, 1, none⟩ (.int .u8 2)) := ((But.refl (fun j => j = bb) w).setCell ⟨bb, 0, none⟩ (.int .u8 22) (fun _ => rfl)).setCell ⟨bb, 1, none⟩ (.int .u8 2) (fun _ => rfl)
  have m0 : (0 : Int) < (M : Int) := by omega
  have m1 : (1 : Int) < (M : Int) := by omega
  have m6 : (M : Int) ≤ 1000000 := by omega
  have m6' : (62 : Int) ≤ (M : Int) := by omega
  have HK := Lib.hid hK
  have HE0 := Lib.hid hE
  have H2 := Lib.hid (And.intro he2 hb2)
  clear hP hQ hup hu hs hw hkn hPost hln hnw hM hE he1 he2 hb2 hK
  conv => arg 2; whnf
  go_upto_region 16 with fail
  clear hu0 hu1 f0 f1
  have he := H2.out.1
  have hb := H2.out.2
  clear H2
  generalize ((w.setCell ⟨bb, 0, none⟩ (.int .u8 22)).setCell ⟨bb, 1, none⟩ (.int .u8 2)) = w16 at he hb ⊢
  have HB16 := Lib.hid (And.intro he hb)
  clear he hb
  have c16 : w16.cell? ⟨S, 2, none⟩ = some (.int .u64 (k.fc : Int)) := cell_of ((HB16.out.2.block S (lt_of_heap HK.out) (fun e => hbS e.symm)).trans HK.out) rfl
  have HC16 : Hid (∀ (nn cc : Nat) (z : Int) (W : World), nn = M - 2 → z = ((k.fc : Nat) : Int) → W = w16.drew → Calls Tryd.prog 51 #[.slice (some ⟨bb, 2, none⟩) nn cc, .int .u64 z] W (PutPost bb M ([22, 2]) (uvarint k.fc) W)) := Lib.hid fun nn cc z W hn hz hW => by
    subst hW
    subst hz
    exact put_u (HB16.out.1.but ((But.refl (fun _ => False) w16).drew) (fun h => h)) rfl hn (by have := HU.out.2.2.2.2; omega) (by omega)
  have p16 : (2 : Int) ≤ (M : Int) := by omega
  have q16 : ¬ (2 = M) := by omega
  have r16 : ¬ ((2 : Int) = (M : Int)) := by omega
  have s16 : (0 : Int) ≤ (2 : Int) := by omega
  go_region_with (go_at_call 51; (with_reducible refine (HC16.out _ _ _ _ ?hn ?hz ?hw).mono ?_); (case hn => omega); (case hz => rfl); (case hw => rfl); rintro e w17 ⟨rfl, h3, hb3⟩; (have HB17 := Lib.hid (And.intro h3 (HB16.out.2.drew.trans hb3))); clear h3 hb3)
  obtain ⟨l16, hl16⟩ : ∃ l, (uvarint k.fc).length = l := ⟨_, rfl⟩
  have hl16' : l16 ≤ 10 := by rw [← hl16]; exact uvarint_length64 (by have := HU.out.2.2.2.2; omega)
  rw [hl16]
  obtain ⟨o17, ho17⟩ : ∃ o, 2 + l16 = o := ⟨_, rfl⟩
  have ho17i : (2 : Int) + (l16 : Int) = (o17 : Int) := by omega
  have hq17 : o17 ≤ 12 := by omega
  have HO17 := Lib.hid (show ([22, 2] ++ uvarint k.fc).length = o17 by rw [List.length_append, hl16, show ([22, 2] : List UInt8).length = 2 from rfl]; first | exact ho17 | (simp; omega))
  clear c16 HC16 hl16 p16 q16 r16 s16
  have c17 : w17.cell? ⟨S, 3, none⟩ = some (.int .u64 (k.fs : Int)) := cell_of ((HB17.out.2.block S (lt_of_heap HK.out) (fun e => hbS e.symm)).trans HK.out) rfl
  have HC17 : Hid (∀ (nn cc : Nat) (z : Int) (W : World), nn = M - o17 → z = ((k.fs : Nat) : Int) → W = w17.drew → Calls Tryd.prog 51 #[.slice (some ⟨bb, o17, none⟩) nn cc, .int .u64 z] W (PutPost bb M ([22, 2] ++ uvarint k.fc) (uvarint k.fs) W)) := Lib.hid fun nn cc z W hn hz hW => by
    subst hW
    subst hz
    exact put_u (HB17.out.1.but ((But.refl (fun _ => False) w17).drew) (fun h => h)) HO17.out hn (by have := HU.out.2.2.2.2; omega) (by omega)
  have p17 : (o17 : Int) ≤ (M : Int) := by omega
  have q17 : ¬ (o17 = M) := by omega
  have r17 : ¬ ((o17 : Int) = (M : Int)) := by omega
  have s17 : (0 : Int) ≤ (o17 : Int) := by omega
  go_upto_region 17 with fail
  go_simp
  have hwr17 : IntKind.i64.wrap (o17 : Int) = (o17 : Int) := by rw [IntKind.wrap_i64]; omega
  rw [hwr17]
  clear hwr17
  go_region_with (go_at_call 51; (with_reducible refine (HC17.out _ _ _ _ ?hn ?hz ?hw).mono ?_); (case hn => omega); (case hz => rfl); (case hw => rfl); rintro e w18 ⟨rfl, h3, hb3⟩; (have HB18 := Lib.hid (And.intro h3 (HB17.out.2.drew.trans hb3))); clear h3 hb3)
  obtain ⟨l17, hl17⟩ : ∃ l, (uvarint k.fs).length = l := ⟨_, rfl⟩
  have hl17' : l17 ≤ 10 := by rw [← hl17]; exact uvarint_length64 (by have := HU.out.2.2.2.2; omega)
  rw [hl17]
  obtain ⟨o18, ho18⟩ : ∃ o, o17 + l17 = o := ⟨_, rfl⟩
  have ho18i : (o17 : Int) + (l17 : Int) = (o18 : Int) := by omega
  have hq18 : o18 ≤ 22 := by omega
  have HO18 := Lib.hid (show ([22, 2] ++ uvarint k.fc ++ uvarint k.fs).length = o18 by rw [List.length_append, hl17, HO17.out]; first | exact ho18 | (simp; omega))
  clear c17 HC17 hl17 p17 q17 r17 s17
  clear ho17 ho17i hq17 hl16'
  have c18 : w18.cell? ⟨S, 0, none⟩ = some (.int .u64 (k.dc : Int)) := cell_of ((HB18.out.2.block S (lt_of_heap HK.out) (fun e => hbS e.symm)).trans HK.out) rfl
  have HC18 : Hid (∀ (nn cc : Nat) (z : Int) (W : World), nn = M - o18 → z = ((k.dc : Nat) : Int) → W = w18.drew → Calls Tryd.prog 51 #[.slice (some ⟨bb, o18, none⟩) nn cc, .int .u64 z] W (PutPost bb M ([22, 2] ++ uvarint k.fc ++ uvarint k.fs) (uvarint k.dc) W)) := Lib.hid fun nn cc z W hn hz hW => by
    subst hW
    subst hz
    exact put_u (HB18.out.1.but ((But.refl (fun _ => False) w18).drew) (fun h => h)) HO18.out hn (by have := HU.out.2.2.2.2; omega) (by omega)
  have p18 : (o18 : Int) ≤ (M : Int) := by omega
  have q18 : ¬ (o18 = M) := by omega
  have r18 : ¬ ((o18 : Int) = (M : Int)) := by omega
  have s18 : (0 : Int) ≤ (o18 : Int) := by omega
  go_upto_region 18 with fail
  go_simp
  have hwr18 : IntKind.i64.wrap (o18 : Int) = (o18 : Int) := by rw [IntKind.wrap_i64]; omega
  rw [hwr18]
  clear hwr18
  go_region_with (go_at_call 51; (with_reducible refine (HC18.out _ _ _ _ ?hn ?hz ?hw).mono ?_); (case hn => omega); (case hz => rfl); (case hw => rfl); rintro e w19 ⟨rfl, h3, hb3⟩; (have HB19 := Lib.hid (And.intro h3 (HB18.out.2.drew.trans hb3))); clear h3 hb3)
  obtain ⟨l18, hl18⟩ : ∃ l, (uvarint k.dc).length = l := ⟨_, rfl⟩
  have hl18' : l18 ≤ 10 := by rw [← hl18]; exact uvarint_length64 (by have := HU.out.2.2.2.2; omega)
  rw [hl18]
  obtain ⟨o19, ho19⟩ : ∃ o, o18 + l18 = o := ⟨_, rfl⟩
  have ho19i : (o18 : Int) + (l18 : Int) = (o19 : Int) := by omega
  have hq19 : o19 ≤ 32 := by omega
  have HO19 := Lib.hid (show ([22, 2] ++ uvarint k.fc ++ uvarint k.fs ++ uvarint k.dc).length = o19 by rw [List.length_append, hl18, HO18.out]; first | exact ho19 | (simp; omega))
  clear c18 HC18 hl18 p18 q18 r18 s18
  clear ho18 ho18i hq18 hl17'
  have c19 : w19.cell? ⟨S, 1, none⟩ = some (.int .u64 (k.ds : Int)) := cell_of ((HB19.out.2.block S (lt_of_heap HK.out) (fun e => hbS e.symm)).trans HK.out) rfl
  have HC19 : Hid (∀ (nn cc : Nat) (z : Int) (W : World), nn = M - o19 → z = ((k.ds : Nat) : Int) → W = w19.drew → Calls Tryd.prog 51 #[.slice (some ⟨bb, o19, none⟩) nn cc, .int .u64 z] W (PutPost bb M ([22, 2] ++ uvarint k.fc ++ uvarint k.fs ++ uvarint k.dc) (uvarint k.ds) W)) := Lib.hid fun nn cc z W hn hz hW => by
    subst hW
    subst hz
    exact put_u (HB19.out.1.but ((But.refl (fun _ => False) w19).drew) (fun h => h)) HO19.out hn (by have := HU.out.2.2.2.2; omega) (by omega)
  have p19 : (o19 : Int) ≤ (M : Int) := by omega
  have q19 : ¬ (o19 = M) := by omega
  have r19 : ¬ ((o19 : Int) = (M : Int)) := by omega
  have s19 : (0 : Int) ≤ (o19 : Int) := by omega
  go_upto_region 19 with fail
  go_simp
  have hwr19 : IntKind.i64.wrap (o19 : Int) = (o19 : Int) := by rw [IntKind.wrap_i64]; omega
  rw [hwr19]
  clear hwr19
  go_region_with (go_at_call 51; (with_reducible refine (HC19.out _ _ _ _ ?hn ?hz ?hw).mono ?_); (case hn => omega); (case hz => rfl); (case hw => rfl); rintro e w20 ⟨rfl, h3, hb3⟩; (have HB20 := Lib.hid (And.intro h3 (HB19.out.2.drew.trans hb3))); clear h3 hb3)
  obtain ⟨l19, hl19⟩ : ∃ l, (uvarint k.ds).length = l := ⟨_, rfl⟩
  have hl19' : l19 ≤ 10 := by rw [← hl19]; exact uvarint_length64 (by have := HU.out.2.2.2.2; omega)
  rw [hl19]
  obtain ⟨o20, ho20⟩ : ∃ o, o19 + l19 = o := ⟨_, rfl⟩
  have ho20i : (o19 : Int) + (l19 : Int) = (o20 : Int) := by omega
  have hq20 : o20 ≤ 42 := by omega
  have HO20 := Lib.hid (show ([22, 2] ++ uvarint k.fc ++ uvarint k.fs ++ uvarint k.dc ++ uvarint k.ds).length = o20 by rw [List.length_append, hl19, HO19.out]; first | exact ho20 | (simp; omega))
  clear c19 HC19 hl19 p19 q19 r19 s19
  clear ho19 ho19i hq19 hl18'
  have c20 : w20.cell? ⟨S, 4, none⟩ = some pv := cell_of ((HB20.out.2.block S (lt_of_heap HK.out) (fun e => hbS e.symm)).trans HK.out) rfl
  have hln := HLN.out _ HB20.out.2.drew
  have hnw6 : nw ≤ 1000000 := by
    have h1 := HM.out
    have h2 := HNW.out
    by_cases e : k.waits = []
    · rw [e] at h2; simp at h2; omega
    · rw [if_neg e] at h1; omega
  have HC20 : Hid (∀ (nn cc : Nat) (z : Int) (W : World), nn = M - o20 → z = ((nw : Nat) : Int) → W = w20.drew → Calls Tryd.prog 51 #[.slice (some ⟨bb, o20, none⟩) nn cc, .int .u64 z] W (PutPost bb M ([22, 2] ++ uvarint k.fc ++ uvarint k.fs ++ uvarint k.dc ++ uvarint k.ds) (uvarint nw) W)) := Lib.hid fun nn cc z W hn hz hW => by
    subst hW
    subst hz
    exact put_u (HB20.out.1.but ((But.refl (fun _ => False) w20).drew) (fun h => h)) HO20.out hn (by omega) (by omega)
  have p20 : (o20 : Int) ≤ (M : Int) := by omega
  have q20 : ¬ (o20 = M) := by omega
  have r20 : ¬ ((o20 : Int) = (M : Int)) := by omega
  have s20 : (0 : Int) ≤ (o20 : Int) := by omega
  go_upto_region 20 with fail
  go_simp
  have hwr20 : IntKind.i64.wrap (o20 : Int) = (o20 : Int) := by rw [IntKind.wrap_i64]; omega
  rw [hwr20]
  clear hwr20
  go_region_with (go_at_call 51; (with_reducible refine (HC20.out _ _ _ _ ?hn ?hz ?hw).mono ?_); (case hn => omega); (case hz => (rw [IntKind.wrap_u64]; omega)); (case hw => rfl); rintro e w21 ⟨rfl, h3, hb3⟩; (have HB21 := Lib.hid (And.intro h3 (HB20.out.2.drew.trans hb3))); clear h3 hb3)
  obtain ⟨l20, hl20⟩ : ∃ l, (uvarint nw).length = l := ⟨_, rfl⟩
  have hl20' : l20 ≤ 10 := by rw [← hl20]; exact uvarint_length64 (by omega)
  rw [hl20]
  obtain ⟨o21, ho21⟩ : ∃ o, o20 + l20 = o := ⟨_, rfl⟩
  have ho21i : (o20 : Int) + (l20 : Int) = (o21 : Int) := by omega
  have hq21 : o21 ≤ 52 := by omega
  have HO21 := Lib.hid (show ([22, 2] ++ uvarint k.fc ++ uvarint k.fs ++ uvarint k.dc ++ uvarint k.ds ++ uvarint nw).length = o21 by rw [List.length_append, hl20, HO20.out]; first | exact ho21 | (simp; omega))
  clear c20 HC20 hl20 p20 q20 r20 s20
  clear ho20 ho20i hq20 hl19'
  have c2 : w21.cell? ⟨S, 2, none⟩ = some (.int .u64 (k.fc : Int)) := cell_of ((HB21.out.2.block S (lt_of_heap HK.out) (fun e => hbS e.symm)).trans HK.out) rfl
  have c3 : w21.cell? ⟨S, 3, none⟩ = some (.int .u64 (k.fs : Int)) := cell_of ((HB21.out.2.block S (lt_of_heap HK.out) (fun e => hbS e.symm)).trans HK.out) rfl
  have p21 : (o21 : Int) ≤ (M : Int) := by omega
  go_upto_region 22 with fail
  try rw [ho21i]
  rename_i K1 a1
  have HKS := Lib.hid a1
  clear a1 ho21 ho21i
  go_wp2_with fail
  refine HKS.out _ _ ?_
  have hK21 : KeptAt w21 S k pv rv := (HB21.out.2.block S (lt_of_heap HK.out) (fun e => hbS e.symm)).trans HK.out
  have hne : ∀ b', (∃ es c, w.heap[b']? = some (.map es c)) → b' ≠ bb := fun b' ⟨es, c, hm⟩ e => by
    subst e
    have h1 := (HE0.out.there 0 (by omega)).1
    simp [World.cell?, hm] at h1
  refine enc23 S bb M o21 nm na k ag pv rv (encHd k nw) w21 _ _ _ _ _ _ _ _ _ _ _ _ _ _ _ _ _ _ _ _ _ _ _ _ _ _ _ _ _ _ _ _ _ _ _ _ _ _ _ _ _ _ _ _ _ _ _ _ _ _ _ _ _ _ _ _ _ _ _ _ _ _ _ _ _ _ _ _ _ _ _ _ _ _ _ _ _ _ _ _ _ _ _ _ _ _ _ _ _ _ _ _ _ _ _ _ _ _ _ _ _ _ _ _ _ _ _ _ _ _ _ _ _ _ _ _ _ _ _ _ _ _ _ _ _ _ _ _ _ _ _ _ _ _ _ _ _ _ _ _ _ _ _ _ _ _ _ _ _ _ _ _ _ _ _ _ _ _ _ _ _ _ _ _ _ _ _ _ _ _ _ _ _ _ _ _ _ _ _ _ _ _ _ _ _ _ _ _ _ _ _ _ _ _ _ _ _ _ _ _ _ _ _ _ _ _ _ _ _ _ _ _ _ _ _ _ Post hK21 HB21.out.1 HO21.out hbS (by have := HM.out; omega) hM6 ?_ ?_ HU.out.1 HU.out.2.1 HU.out.2.2.1 HU.out.2.2.2.1 (fun xs ys w' hx hy he hb => HPost.out xs ys w' hx hy he (HB21.out.2.trans hb))
  · rcases HP.out.1 with h | ⟨b, D, h1, h2, h3⟩
    · exact Or.inl h
    · refine Or.inr ⟨b, D, h1, h2.but HB21.out.2 (hne b ?_) (fun p cs f e => ?_), h3⟩
      · obtain ⟨es, clock, hm, _⟩ := h2.own
        exact ⟨es, clock, hm⟩
      · subst e; exact HE0.out.not93 cs f
  · rcases HP.out.2 with h | ⟨rb, E, h1, h2, h3⟩
    · exact Or.inl h
    · refine Or.inr ⟨rb, E, h1, h2.but HB21.out.2 (hne rb ?_), h3⟩
      obtain ⟨es, clock, hm, _⟩ := h2.own
      exact ⟨es, clock, hm⟩
end Go.Proofs.YtchphfdoneckeaaDoor
