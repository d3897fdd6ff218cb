/-
  encodeConsumerState: in the first loop, a delivery's number.
-/
import Derived.Test.YtchphfdoneckeaaDoorE3
namespace Go.Proofs.YtchphfdoneckeaaDoor
open Go.RowKit Go.Lib
open Cs (Wt Kp Ag)

def pb : Code → Code
  | .block _ c => c
  | c => c
def plp : Code → Code
  | .loop c => c
  | c => c
def pt : Code → Code
  | .cond _ a _ => a
  | c => c
/-- the loop's body, behind its head -/
noncomputable def body1 : Code := pb (p2 (p2 (plp (pb (p2 (p2 (p2 (pt (p2 (p1 (p2 (p2 (p2 (p2 (p2 (p2 (p2 (p2 (p2 (p2 (p2 (p2 (p2 (p2 (p2 (p2 (p2 (Tryd.f35.body.getD .skip))))))))))))))))))))))))))))
noncomputable def reg30 : Code := p1 (p2 (p2 body1))
set_option maxHeartbeats 4000000 in
set_option maxRecDepth 1000000 in
theorem enc30 (bb M o p : Nat) (k : Kp) (x : Wt) (out : List UInt8) (w : World) (x0 x1 x2 x3 x5 x6 x7 x9 x11 x12 x14 x15 x16 x17 x18 x19 x20 x21 x22 x23 x24 x25 x26 x27 x28 x29 x30 x31 x32 x33 x34 x35 x36 x37 x38 x39 x40 x41 x42 x43 x44 x45 x46 x47 x48 x49 x50 x51 x52 x53 x54 x55 x56 x57 x58 x59 x60 x61 x62 x63 x64 x65 x66 x67 x68 x69 x70 x71 x72 x73 x74 x75 x76 x77 x78 x79 x80 x81 x82 x83 x84 x85 x86 x87 x88 x89 x90 x91 x92 x93 x94 x95 x96 x97 x98 x99 x100 x101 x102 x103 x104 x105 x106 x107 x108 x109 x110 x111 x112 x113 x114 x115 x116 x117 x118 x119 x120 x121 x122 x123 x124 x125 x126 x127 x128 x129 x130 x131 x132 x133 x134 x135 x136 x137 x138 x139 x140 x141 x142 x143 x144 x145 x146 x147 x148 x149 x150 x151 x152 x153 x154 x155 x156 x157 x158 x159 x160 x161 x162 x163 x164 x165 x166 x167 x168 x169 x170 x171 x172 x173 x174 x175 x176 x177 x178 x179 x180 x181 x182 x183 x184 x185 x186 x187 x188 x189 x190 x191 x192 x193 x194 x195 x196 x197 x198 x199 x200 x201 x202 x203 x204 x205 x206 x207 x208 x209 x210 x211 x212 x213 x214 x215 x216 x217 x218 x219 x220 : Value) (K K2 K3 : Act → World → Prop) (Post : Ending → World → Prop)
    (hE : EncAt w bb M out) (ho : out.length = o) (hM : o + 20 ≤ M) (hM6 : M ≤ 1000000) (k0 : w.cell? ⟨p, 0, none⟩ = some (.int .u64 (x.c : Int))) (h1 : k.fc < x.c) (h2 : x.c < 9223372036854775808)
    (hK : ∀ (v148 v149 v150 v151 v152 v153 v154 v155 v156 v157 v158 v159 : Value) (l2 : Nat) (w' : World), (uvarint (x.c - k.fc)).length = l2 → l2 ≤ 10 → EncAt w' bb M (out ++ uvarint (x.c - k.fc)) → But (fun j => j = bb) w w' → K ⟨#[x0, x1, x2, x3, .slice (some ⟨bb, 0, none⟩) M M, x5, x6, x7, .int .i64 ((o : Int) + (l2 : Int)), x9, .int .u64 (k.fc : Int), x11, x12, .pointer (some ⟨p, 0, none⟩), x14, x15, x16, x17, x18, x19, x20, x21, x22, x23, x24, x25, x26, x27, x28, x29, x30, x31, x32, x33, x34, x35, x36, x37, x38, x39, x40, x41, x42, x43, x44, x45, x46, x47, x48, x49, x50, x51, x52, x53, x54, x55, x56, x57, x58, x59, x60, x61, x62, x63, x64, x65, x66, x67, x68, x69, x70, x71, x72, x73, x74, x75, x76, x77, x78, x79, x80, x81, x82, x83, x84, x85, x86, x87, x88, x89, x90, x91, x92, x93, x94, x95, x96, x97, x98, x99, x100, x101, x102, x103, x104, x105, x106, x107, x108, x109, x110, x111, x112, x113, x114, x115, x116, x117, x118, x119, x120, x121, x122, x123, x124, x125, x126, x127, x128, x129, x130, x131, x132, x133, x134, x135, x136, x137, x138, x139, x140, x141, x142, x143, x144, x145, x146, x147, v148, v149, v150, v151, v152, v153, v154, v155, v156, v157, v158, v159, x160, x161, x162, x163, x164, x165, x166, x167, x168, x169, x170, x171, x172, x173, x174, x175, x176, x177, x178, x179, x180, x181, x182, x183, x184, x185, x186, x187, x188, x189, x190, x191, x192, x193, x194, x195, x196, x197, x198, x199, x200, x201, x202, x203, x204, x205, x206, x207, x208, x209, x210, x211, x212, x213, x214, x215, x216, x217, x218, x219, x220], []⟩ w') :
    Code.wp Tryd.prog reg30 (Exit.then K (Exit.inBlock 1 (Exit.then K2 (Exit.inBlock 0 (Exit.then K3 (bodyPost Tryd.prog Tryd.f35 Post)))))) ⟨#[x0, x1, x2, x3, .slice (some ⟨bb, 0, none⟩) M M, x5, x6, x7, .int .i64 (o : Int), x9, .int .u64 (k.fc : Int), x11, x12, .pointer (some ⟨p, 0, none⟩), x14, x15, x16, x17, x18, x19, x20, x21, x22, x23, x24, x25, x26, x27, x28, x29, x30, x31, x32, x33, x34, x35, x36, x37, x38, x39, x40, x41, x42, x43, x44, x45, x46, x47, x48, x49, x50, x51, x52, x53, x54, x55, x56, x57, x58, x59, x60, x61, x62, x63, x64, x65, x66, x67, x68, x69, x70, x71, x72, x73, x74, x75, x76, x77, x78, x79, x80, x81, x82, x83, x84, x85, x86, x87, x88, x89, x90, x91, x92, x93, x94, x95, x96, x97, x98, x99, x100, x101, x102, x103, x104, x105, x106, x107, x108, x109, x110, x111, x112, x113, x114, x115, x116, x117, x118, x119, x120, x121, x122, x123, x124, x125, x126, x127, x128, x129, x130, x131, x132, x133, x134, x135, x136, x137, x138, x139, x140, x141, x142, x143, x144, x145, x146, x147, x148, x149, x150, x151, x152, x153, x154, x155, x156, x157, x158, x159, x160, x161, x162, x163, x164, x165, x166, x167, x168, x169, x170, x171, x172, x173, x174, x175, x176, x177, x178, x179, x180, x181, x182, x183, x184, x185, x186, x187, x188, x189, x190, x191, x192, x193, x194, x195, x196, x197, x198, x199, x200, x201, x202, x203, x204, x205, x206, x207, x208, x209, x210, x211, x212, x213, x214, x215, x216, x217, x218, x219, x220], []⟩ w := by
  have HK := Lib.hid hK
  have HC : Hid (∀ (nn cc : Nat) (z : Int) (W : World), nn = M - o → z = ((x.c - k.fc : Nat) : Int) → W = w.drew → Calls Tryd.prog 51 #[.slice (some ⟨bb, o, none⟩) nn cc, .int .u64 z] W (PutPost bb M out (uvarint (x.c - k.fc)) W)) := Lib.hid fun nn cc z W hn hz hW => by
    subst hW
    subst hz
    exact put_u (hE.but ((But.refl (fun _ => False) w).drew) (fun h => h)) ho hn (by omega) (by omega)
  have HZ : Hid (IntKind.u64.wrap ((x.c : Int) - (k.fc : Int)) = ((x.c - k.fc : Nat) : Int)) := Lib.hid (by rw [IntKind.wrap_u64]; omega)
  have t0 : (0 : Int) ≤ (o : Int) := by omega
  have t1 : (o : Int) ≤ (M : Int) := by omega
  have t2 : ¬ (o = M) := by omega
  have t3 : ¬ ((o : Int) = (M : Int)) := by omega
  have t5 : (M : Int) ≤ 1000000 := by omega
  have hl : (uvarint (x.c - k.fc)).length ≤ 10 := uvarint_length64 (by omega)
  have t6 : (o : Int) + 10 ≤ (M : Int) := by omega
  clear hK hE ho hM hM6 h1 h2
  conv => arg 2; whnf
  go_region_with (go_at_call 51; (with_reducible refine (HC.out _ _ _ _ ?hn ?hz ?hw).mono ?_); (case hn => omega); (case hz => exact HZ.out); (case hw => rfl); rintro e w4 ⟨rfl, h4, hb4⟩; (have H4 := Lib.hid (And.intro h4 hb4)); clear h4 hb4)
  obtain ⟨l2, hl2⟩ : ∃ l2, (uvarint (x.c - k.fc)).length = l2 := ⟨_, rfl⟩
  rw [hl2] at hl ⊢
  have HL := Lib.hid hl2
  clear hl2
  go_wp2_with fail
  go_simp
  have hwr : IntKind.i64.wrap ((o : Int) + (l2 : Int)) = (o : Int) + (l2 : Int) := by rw [IntKind.wrap_i64]; omega
  rw [hwr]
  exact HK.out _ _ _ _ _ _ _ _ _ _ _ _ l2 w4 HL.out hl H4.out.1 (((But.refl (fun j => j = bb) w).drew).trans H4.out.2)
end Go.Proofs.YtchphfdoneckeaaDoor
