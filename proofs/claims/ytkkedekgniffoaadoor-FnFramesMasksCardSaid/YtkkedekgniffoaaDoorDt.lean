/-
  wsReadLoop: a frame's data, as far as the buffer holds them.
-/
import Derived.Test.YtkkedekgniffoaaDoorRb
import Derived.Test.YtkkedekgniffoaaDoorHw
namespace Go.Proofs.YtkkedekgniffoaaDoor
open Go.RowKit
set_option maxHeartbeats 16000000 in
set_option maxRecDepth 1000000 in
theorem data_wp (E : Nm) (hE : E.Ok) (g o m c M gk : Nat) (L0 : List UInt8) (x : World) (pos a : Nat) (F : List Pc) (r : RdV) (kv : Value) (nk : Nat) (B : List UInt8) (D : List Ch) (outs : List Value) (ov : Value) (hI : Inv E g o m M L0 x pos a F r kv nk B D outs ov) (hfs : r.fs = false) (hg1 : 2 * (rest B (o + pos) F).length + 2 ≤ gk) (hm : m ≤ 1000000) (hmc : m ≤ c) (hM : M ≤ 900000)
    (c2 c5 c6 c7 c8 c9 c10 c11 c12 c15 c16 c17 c18 c19 c20 c21 c22 c23 c24 c25 c26 c27 c28 c29 c30 c31 c32 c33 c34 c35 c36 c37 c38 c39 c40 c41 c42 c43 c44 c45 c46 c47 c48 c49 c50 c51 c52 c53 c54 c55 c56 c57 c58 c59 c60 c61 c62 c63 c64 c65 c66 c67 c68 c69 c70 c71 c72 c73 c74 c75 c76 c77 c78 c79 c80 c81 c82 c83 c84 c85 c86 c87 c88 c89 c90 c91 c92 c93 c94 c95 c96 c97 c98 c99 c100 c101 c102 c103 c104 c105 c106 c107 c108 c109 c110 c111 c112 c113 c114 c115 c116 c117 c118 c119 c120 c121 c122 c123 c124 c125 c126 c127 c128 c129 c130 c131 c132 c133 c134 c135 c136 c137 c138 c139 c140 c141 c142 c143 c144 c145 c146 c147 c148 c149 c150 c151 c152 c153 c154 c155 c156 c157 c158 c159 c160 c161 c162 c163 c164 c165 c166 c167 c168 c169 c170 c171 c172 c173 c174 c175 c176 c177 c178 c179 c180 c181 c182 c183 c184 c185 c186 c187 c188 c189 c190 c191 c192 c193 c194 c195 c196 c197 c198 c199 c200 c201 c202 c203 c204 c205 c206 c207 c208 c209 c210 c211 c212 c213 c214 c215 c216 c217 c218 c219 c220 c221 c222 c223 c224 c225 c226 c227 c228 c229 c230 c231 c232 c233 c234 c235 c236 c237 c238 c239 c240 c241 c242 c243 c244 c245 c246 c247 c248 c249 c250 c251 c252 c253 c254 c255 c256 c257 c258 c259 c260 c261 c262 c263 c264 c265 c266 c267 c268 c269 c270 c271 c272 c273 c274 c275 c276 c277 c278 c279 c280 c281 c282 c283 c284 c285 c286 c287 c288 c289 c290 c291 c292 c293 c294 c295 c296 c297 c298 c299 c300 c301 : Value) (K2 K3 : Act → World → Prop) (Post : Ending → World → Prop)
    (hK : ∀ (v10 v20 v21 v22 v234 v235 v236 v237 v238 v239 v240 v241 v242 v243 v244 v245 v246 v247 v248 v249 v250 v251 v252 v253 v254 v255 v256 v257 v258 v259 v260 v261 v262 v263 v264 v265 v266 v267 v268 v269 v270 v271 v272 v273 v274 v275 v276 v277 v278 v279 v280 v281 v282 v283 v284 v285 v286 v287 v288 v289 v290 v291 v292 v293 v294 v295 v296 v297 v298 v299 v300 v301 : Value) (x' : World) (pos2 a2 : Nat) (F2 : List Pc) (r2 : RdV) (kv2 : Value) (nk2 : Nat) (B2 : List UInt8) (D2 : List Ch) (outs2 : List Value) (ov2 : Value), Inv E g o m M L0 x' pos2 a2 F2 r2 kv2 nk2 B2 D2 outs2 ov2 → 2 * (rest B2 (o + pos2) F2).length + fsN r2.fs + 1 < gk → K2 ⟨#[.pointer (some ⟨E.C, 0, none⟩), .pointer (some ⟨E.R, 0, none⟩), c2, .slice (some ⟨g, o, none⟩) m c, .func (.func 22) #[] #[.pointer (some ⟨E.O, 0, none⟩)], c5, c6, c7, c8, c9, v10, c11, c12, .int .u64 pos2, .int .u64 m, c15, c16, c17, c18, c19, v20, v21, v22, c23, c24, c25, c26, c27, c28, c29, c30, c31, c32, c33, c34, c35, c36, c37, c38, c39, c40, c41, c42, c43, c44, c45, c46, c47, c48, c49, c50, c51, c52, c53, c54, c55, c56, c57, c58, c59, c60, c61, c62, c63, c64, c65, c66, c67, c68, c69, c70, c71, c72, c73, c74, c75, c76, c77, c78, c79, c80, c81, c82, c83, c84, c85, c86, c87, c88, c89, c90, c91, c92, c93, c94, c95, c96, c97, c98, c99, c100, c101, c102, c103, c104, c105, c106, c107, c108, c109, c110, c111, c112, c113, c114, c115, c116, c117, c118, c119, c120, c121, c122, c123, c124, c125, c126, c127, c128, c129, c130, c131, c132, c133, c134, c135, c136, c137, c138, c139, c140, c141, c142, c143, c144, c145, c146, c147, c148, c149, c150, c151, c152, c153, c154, c155, c156, c157, c158, c159, c160, c161, c162, c163, c164, c165, c166, c167, c168, c169, c170, c171, c172, c173, c174, c175, c176, c177, c178, c179, c180, c181, c182, c183, c184, c185, c186, c187, c188, c189, c190, c191, c192, c193, c194, c195, c196, c197, c198, c199, c200, c201, c202, c203, c204, c205, c206, c207, c208, c209, c210, c211, c212, c213, c214, c215, c216, c217, c218, c219, c220, c221, c222, c223, c224, c225, c226, c227, c228, c229, c230, c231, c232, c233, v234, v235, v236, v237, v238, v239, v240, v241, v242, v243, v244, v245, v246, v247, v248, v249, v250, v251, v252, v253, v254, v255, v256, v257, v258, v259, v260, v261, v262, v263, v264, v265, v266, v267, v268, v269, v270, v271, v272, v273, v274, v275, v276, v277, v278, v279, v280, v281, v282, v283, v284, v285, v286, v287, v288, v289, v290, v291, v292, v293, v294, v295, v296, v297, v298, v299, v300, v301], []⟩ x')
    (hskip : ¬ pos < m → ∀ (v10 v20 v21 v22 v234 v235 v236 v237 v238 v239 v240 v241 v242 v243 v244 v245 v246 v247 v248 v249 v250 v251 v252 v253 v254 v255 v256 v257 v258 v259 v260 v261 v262 v263 v264 v265 v266 v267 v268 v269 v270 v271 v272 v273 v274 v275 v276 v277 v278 v279 v280 v281 v282 v283 v284 v285 v286 v287 v288 v289 v290 v291 v292 v293 v294 v295 v296 v297 v298 v299 v300 v301 : Value), K2 ⟨#[.pointer (some ⟨E.C, 0, none⟩), .pointer (some ⟨E.R, 0, none⟩), c2, .slice (some ⟨g, o, none⟩) m c, .func (.func 22) #[] #[.pointer (some ⟨E.O, 0, none⟩)], c5, c6, c7, c8, c9, v10, c11, c12, .int .u64 pos, .int .u64 m, c15, c16, c17, c18, c19, v20, v21, v22, c23, c24, c25, c26, c27, c28, c29, c30, c31, c32, c33, c34, c35, c36, c37, c38, c39, c40, c41, c42, c43, c44, c45, c46, c47, c48, c49, c50, c51, c52, c53, c54, c55, c56, c57, c58, c59, c60, c61, c62, c63, c64, c65, c66, c67, c68, c69, c70, c71, c72, c73, c74, c75, c76, c77, c78, c79, c80, c81, c82, c83, c84, c85, c86, c87, c88, c89, c90, c91, c92, c93, c94, c95, c96, c97, c98, c99, c100, c101, c102, c103, c104, c105, c106, c107, c108, c109, c110, c111, c112, c113, c114, c115, c116, c117, c118, c119, c120, c121, c122, c123, c124, c125, c126, c127, c128, c129, c130, c131, c132, c133, c134, c135, c136, c137, c138, c139, c140, c141, c142, c143, c144, c145, c146, c147, c148, c149, c150, c151, c152, c153, c154, c155, c156, c157, c158, c159, c160, c161, c162, c163, c164, c165, c166, c167, c168, c169, c170, c171, c172, c173, c174, c175, c176, c177, c178, c179, c180, c181, c182, c183, c184, c185, c186, c187, c188, c189, c190, c191, c192, c193, c194, c195, c196, c197, c198, c199, c200, c201, c202, c203, c204, c205, c206, c207, c208, c209, c210, c211, c212, c213, c214, c215, c216, c217, c218, c219, c220, c221, c222, c223, c224, c225, c226, c227, c228, c229, c230, c231, c232, c233, v234, v235, v236, v237, v238, v239, v240, v241, v242, v243, v244, v245, v246, v247, v248, v249, v250, v251, v252, v253, v254, v255, v256, v257, v258, v259, v260, v261, v262, v263, v264, v265, v266, v267, v268, v269, v270, v271, v272, v273, v274, v275, v276, v277, v278, v279, v280, v281, v282, v283, v284, v285, v286, v287, v288, v289, v290, v291, v292, v293, v294, v295, v296, v297, v298, v299, v300, v301], []⟩ x) :
    Code.wp Tryd.prog dataC (Exit.inBlock 1 (Exit.then K2 (Exit.inBlock 0 (Exit.then K3 (bodyPost Tryd.prog Tryd.f21 Post))))) ⟨#[.pointer (some ⟨E.C, 0, none⟩), .pointer (some ⟨E.R, 0, none⟩), c2, .slice (some ⟨g, o, none⟩) m c, .func (.func 22) #[] #[.pointer (some ⟨E.O, 0, none⟩)], c5, c6, c7, c8, c9, c10, c11, c12, .int .u64 pos, .int .u64 m, c15, c16, c17, c18, c19, c20, c21, c22, c23, c24, c25, c26, c27, c28, c29, c30, c31, c32, c33, c34, c35, c36, c37, c38, c39, c40, c41, c42, c43, c44, c45, c46, c47, c48, c49, c50, c51, c52, c53, c54, c55, c56, c57, c58, c59, c60, c61, c62, c63, c64, c65, c66, c67, c68, c69, c70, c71, c72, c73, c74, c75, c76, c77, c78, c79, c80, c81, c82, c83, c84, c85, c86, c87, c88, c89, c90, c91, c92, c93, c94, c95, c96, c97, c98, c99, c100, c101, c102, c103, c104, c105, c106, c107, c108, c109, c110, c111, c112, c113, c114, c115, c116, c117, c118, c119, c120, c121, c122, c123, c124, c125, c126, c127, c128, c129, c130, c131, c132, c133, c134, c135, c136, c137, c138, c139, c140, c141, c142, c143, c144, c145, c146, c147, c148, c149, c150, c151, c152, c153, c154, c155, c156, c157, c158, c159, c160, c161, c162, c163, c164, c165, c166, c167, c168, c169, c170, c171, c172, c173, c174, c175, c176, c177, c178, c179, c180, c181, c182, c183, c184, c185, c186, c187, c188, c189, c190, c191, c192, c193, c194, c195, c196, c197, c198, c199, c200, c201, c202, c203, c204, c205, c206, c207, c208, c209, c210, c211, c212, c213, c214, c215, c216, c217, c218, c219, c220, c221, c222, c223, c224, c225, c226, c227, c228, c229, c230, c231, c232, c233, c234, c235, c236, c237, c238, c239, c240, c241, c242, c243, c244, c245, c246, c247, c248, c249, c250, c251, c252, c253, c254, c255, c256, c257, c258, c259, c260, c261, c262, c263, c264, c265, c266, c267, c268, c269, c270, c271, c272, c273, c274, c275, c276, c277, c278, c279, c280, c281, c282, c283, c284, c285, c286, c287, c288, c289, c290, c291, c292, c293, c294, c295, c296, c297, c298, c299, c300, c301], []⟩ x := by
  have HE := Lib.hid hE
  have HI := Lib.hid hI
  have HK := Lib.hid hK
  have HS := Lib.hid hskip
  have hpm := hI.1.pl
  have r0 := hI.1.rd.c0
  have f0 := hI.1.rd.fz 0
  have r4 := hI.1.rd.c4
  have hrem := hI.2.2.1
  clear hE hI hK hskip
  by_cases hlt : pos < m
  · have e2 : (pos : Int) < (m : Int) := by omega
    obtain ⟨rem, hrm⟩ : ∃ rem, r.rem = rem := ⟨_, rfl⟩
    rw [hrm] at r0 hrem
    have HRM := Lib.hid hrm
    clear hrm
    have hpc : ¬ (c = pos) := by omega
    have i0 : (0 : Int) ≤ (pos : Int) := by omega
    obtain ⟨n, q, hn, hq, hqn, hn2, hbig⟩ : ∃ n q, n = min rem (m - pos) ∧ q = rem - n ∧ rem = n + q ∧ pos + n ≤ m ∧ ((m - pos < rem ∧ n = m - pos) ∨ (¬ (m - pos < rem) ∧ n = rem ∧ q = 0)) := ⟨min rem (m - pos), rem - min rem (m - pos), by omega, by omega, by omega, by omega, by omega⟩
    have i1 : (pos : Int) ≤ (pos : Int) + (n : Int) := by omega
    have i2 : (pos : Int) + (n : Int) ≤ (c : Int) := by omega
    have hnM : n ≤ 1000000 := by omega
    have HB1 := Lib.hid (HI.out.1.rdw HE.out ((But.refl (fun k => k = E.R) x).setCell ⟨E.R, 0, none⟩ (.int .u64 q) rfl) (HI.out.1.rd.set0 q))
    have r4' := HB1.out.rd.c4
    have HU := Lib.hid (unmask_any E.R g (o + pos) n (c - pos) B { r with rem := q } (x.setCell ⟨E.R, 0, none⟩ (.int .u64 q)) HB1.out.rd HB1.out.b HI.out.2.1 (by have := HI.out.1.om; omega) hnM (by omega))
    have HH : Hid (∀ x2 : World, UnmPost E.R g (o + pos) n B { r with rem := q } (x.setCell ⟨E.R, 0, none⟩ (.int .u64 q)) (.returned (.tuple #[])) x2 →
        Bs E g o m x2 (pos + n) a F { r with rem := q, kp := (r.kp + n) % 4 } kv nk (mixU r.key r.kp B (o + pos) n) D outs ov ∧ ChB x2 ⟨g, o + pos, Fr.unm r.key r.kp ((B.drop (o + pos)).take n)⟩ ∧
        (Fr.unm r.key r.kp ((B.drop (o + pos)).take n)).length = n ∧
        (∀ D' outs' ov' x3, Bs E g o m x3 (pos + n) a F { r with rem := q, kp := (r.kp + n) % 4, fs := decide (q = 0) } kv nk (mixU r.key r.kp B (o + pos) n) D' outs' ov' → D' = (D ++ [⟨g, o + pos, Fr.unm r.key r.kp ((B.drop (o + pos)).take n)⟩]) →
          Inv E g o m M L0 x3 (pos + n) a F { r with rem := q, kp := (r.kp + n) % 4, fs := decide (q = 0) } kv nk (mixU r.key r.kp B (o + pos) n) D' outs' ov' ∧
          2 * (rest (mixU r.key r.kp B (o + pos) n) (o + (pos + n)) F).length + fsN (decide (q = 0)) + 1 < gk)) := by
      exact Lib.hid fun x2 hx2 => data_step HE.out HI.out hfs (by rw [HRM.out]; exact hn) (by rw [HRM.out]; exact hq) hlt hg1 x2 hx2
    have HDL := Lib.hid (show D.length ≤ 2000000 from by have := HI.out.2.2.2.2.2; omega)
    rcases hbig with ⟨h1, h2⟩ | ⟨h1, h2, h3⟩
    · have e3 : (m : Int) < (pos : Int) + (rem : Int) := by omega
      have e4 : (m : Int) - (pos : Int) = (n : Int) := by omega
      have e5 : (rem : Int) - (n : Int) = (q : Int) := by omega
      have hq0 : ¬ (q = 0) := by omega
      have hqz : ¬ ((q : Int) = 0) := by omega
      clear hn hq hqn h1 h2
      conv => arg 2; whnf
      go_wp2_with fail
      with_reducible refine (HU.out).mono ?_
      rintro e x2 hx2
      have H2 := Lib.hid (And.intro hx2.2.1 (HH.out x2 (by obtain ⟨_, h⟩ := hx2; exact ⟨rfl, h⟩)))
      obtain ⟨rfl, _⟩ := hx2
      have q0 : x2.cell? ⟨E.R, 0, none⟩ = some (.int .u64 q) := H2.out.1.c0
      have q2 : x2.cell? ⟨E.R, 2, none⟩ = some (.bool r.ff) := H2.out.1.c2
      have q3 := H2.out.1.c3
      have HFIN : Hid (∀ x3, (∃ ov', OAt x3 E.O ov' ∧ x3.ownsRow E.B1 50 1 ov' (D.length + 1) (outs ++ [.slice (some ⟨g, o + pos, none⟩) n (c - pos)]) ∧ But (fun k => k = E.O ∨ ov.ownBlock = some k) x2 x3) →
          ∃ outs' ov', Bs E g o m x3 (pos + n) a F { r with rem := q, kp := (r.kp + n) % 4 } kv nk (mixU r.key r.kp B (o + pos) n) (D ++ [⟨g, o + pos, Fr.unm r.key r.kp ((B.drop (o + pos)).take n)⟩]) outs' ov') := by
        refine Lib.hid fun x3 h3 => ?_
        obtain ⟨ov', ho, hw3, hb⟩ := h3
        exact ⟨_, _, H2.out.2.1.out HE.out (ch := ⟨g, o + pos, Fr.unm r.key r.kp ((B.drop (o + pos)).take n)⟩) hb ho hw3 ⟨o + pos, c - pos, by rw [H2.out.2.2.2.1], fun _ => rfl⟩ H2.out.2.2.1 ⟨rfl, by rw [H2.out.2.2.2.1, Nat.add_assoc]; exact Nat.le_refl _⟩⟩
      have HF0 : Hid (∀ (x3 : World), (∃ outs' ov', Bs E g o m x3 (pos + n) a F { r with rem := q, kp := (r.kp + n) % 4 } kv nk (mixU r.key r.kp B (o + pos) n) (D ++ [⟨g, o + pos, Fr.unm r.key r.kp ((B.drop (o + pos)).take n)⟩]) outs' ov') →
          ∃ outs' ov', Bs E g o m x3 (pos + n) a F { r with rem := q, kp := (r.kp + n) % 4, fs := decide (q = 0) } kv nk (mixU r.key r.kp B (o + pos) n) (D ++ [⟨g, o + pos, Fr.unm r.key r.kp ((B.drop (o + pos)).take n)⟩]) outs' ov') := by
        refine Lib.hid fun x3 h3 => ?_
        obtain ⟨o2, v2, h⟩ := h3
        have he : ({ r with rem := q, kp := (r.kp + n) % 4, fs := decide (q = 0) } : RdV) = { r with rem := q, kp := (r.kp + n) % 4 } := by rw [show decide (q = 0) = r.fs from by rw [hfs]; exact decide_eq_false hq0]
        rw [he]
        exact ⟨o2, v2, h⟩
      cases hff : r.ff with
      | false =>
        rw [hff] at q2
        go_upto_region 77 with fail
        refine reg77_no E.B1 E.C E.R E.O g (o + pos) _ n (c - pos) D.length q ov outs x2 (by first | rfl | omega) H2.out.2.1.oa H2.out.2.1.oo HDL.out HE.out.o1 H2.out.2.1.bs H2.out.1.c0 q2 q3 _ _ _ _ _ _ _ _ _ _ _ _ _ _ _ _ _ _ _ _ _ _ _ _ _ _ _ _ _ _ _ _ _ _ _ _ _ _ _ _ _ _ _ _ _ _ _ _ _ _ _ _ _ _ _ _ _ _ _ _ _ _ _ _ _ _ _ _ _ _ _ _ _ _ _ _ _ _ _ _ _ _ _ _ _ _ _ _ _ _ _ _ _ _ _ _ _ _ _ _ _ _ _ _ _ _ _ _ _ _ _ _ _ _ _ _ _ _ _ _ _ _ _ _ _ _ _ _ _ _ _ _ _ _ _ _ _ _ _ _ _ _ _ _ _ _ _ _ _ _ _ _ _ _ _ _ _ _ _ _ _ _ _ _ _ _ _ _ _ _ _ _ _ _ _ _ _ _ _ _ _ _ _ _ _ _ _ _ _ _ _ _ _ _ _ _ _ _ _ _ _ _ _ _ _ _ _ _ _ _ _ _ _ _ _ _ _ _ _ _ _ _ _ _ _ _ _ _ _ _ _ _ _ _ _ _ _ _ _ _ _ _ _ _ _ _ _ _ _ _ _ _ _ _ _ _ _ _ _ _ _ _ _ _ _ _ _ _ _ _ _ _ _ _ _ _ _ _ _ _ _ _ _ _ _ _ _ _ _ _ _ _ _ _ _ _ _ _ _ _ _ _ _ ?_
        intro y273 y274 y275 y276 y277 y278 y279 y280 y281 y282 y283 y284 y285 y286 y287 y288 y289 y290 x3 h3
        have H3 := Lib.hid (HFIN.out x3 h3)
        clear h3
        have z0 : x3.cell? ⟨E.R, 0, none⟩ = some (.int .u64 q) := by obtain ⟨_, _, hb3⟩ := H3.out; exact hb3.rd.c0
        have z1 : x3.frozen? ⟨E.R, 1, none⟩ = false := by obtain ⟨_, _, hb3⟩ := H3.out; exact hb3.rd.fz 1
        have z2 : x3.cell? ⟨E.R, 1, none⟩ = some (.bool false) := by obtain ⟨_, _, hb3⟩ := H3.out; have h := hb3.rd.c1; simp only [hfs] at h; exact h
        go_wp2_with fail
        obtain ⟨o3, v3, hF3⟩ := HF0.out _ H3.out
        have hlast := H2.out.2.2.2.2 _ _ _ _ hF3 rfl
        exact HK.out _ _ _ _ _ _ _ _ _ _ _ _ _ _ _ _ _ _ _ _ _ _ _ _ _ _ _ _ _ _ _ _ _ _ _ _ _ _ _ _ _ _ _ _ _ _ _ _ _ _ _ _ _ _ _ _ _ _ _ _ _ _ _ _ _ _ _ _ _ _ _ _ _ (pos + n) a F _ kv nk _ _ o3 v3 hlast.1 hlast.2
      | true =>
        rw [hff] at q2
        go_upto_region 77 with fail
        refine reg77_more E.B1 E.C E.R E.O g (o + pos) _ n (c - pos) D.length q ov outs x2 (by first | rfl | omega) H2.out.2.1.oa H2.out.2.1.oo HDL.out HE.out.o1 H2.out.2.1.bs H2.out.1.c0 q2 q3 hqz _ _ _ _ _ _ _ _ _ _ _ _ _ _ _ _ _ _ _ _ _ _ _ _ _ _ _ _ _ _ _ _ _ _ _ _ _ _ _ _ _ _ _ _ _ _ _ _ _ _ _ _ _ _ _ _ _ _ _ _ _ _ _ _ _ _ _ _ _ _ _ _ _ _ _ _ _ _ _ _ _ _ _ _ _ _ _ _ _ _ _ _ _ _ _ _ _ _ _ _ _ _ _ _ _ _ _ _ _ _ _ _ _ _ _ _ _ _ _ _ _ _ _ _ _ _ _ _ _ _ _ _ _ _ _ _ _ _ _ _ _ _ _ _ _ _ _ _ _ _ _ _ _ _ _ _ _ _ _ _ _ _ _ _ _ _ _ _ _ _ _ _ _ _ _ _ _ _ _ _ _ _ _ _ _ _ _ _ _ _ _ _ _ _ _ _ _ _ _ _ _ _ _ _ _ _ _ _ _ _ _ _ _ _ _ _ _ _ _ _ _ _ _ _ _ _ _ _ _ _ _ _ _ _ _ _ _ _ _ _ _ _ _ _ _ _ _ _ _ _ _ _ _ _ _ _ _ _ _ _ _ _ _ _ _ _ _ _ _ _ _ _ _ _ _ _ _ _ _ _ _ _ _ _ _ _ _ _ _ _ _ _ _ _ _ _ _ _ _ _ _ _ _ ?_
        intro y273 y274 y275 y276 y277 y278 y279 y280 y281 y282 y283 y284 y285 y286 y287 y288 y289 y290 x3 h3
        have H3 := Lib.hid (HFIN.out x3 h3)
        clear h3
        have z0 : x3.cell? ⟨E.R, 0, none⟩ = some (.int .u64 q) := by obtain ⟨_, _, hb3⟩ := H3.out; exact hb3.rd.c0
        have z1 : x3.frozen? ⟨E.R, 1, none⟩ = false := by obtain ⟨_, _, hb3⟩ := H3.out; exact hb3.rd.fz 1
        have z2 : x3.cell? ⟨E.R, 1, none⟩ = some (.bool false) := by obtain ⟨_, _, hb3⟩ := H3.out; have h := hb3.rd.c1; simp only [hfs] at h; exact h
        go_wp2_with fail
        obtain ⟨o3, v3, hF3⟩ := HF0.out _ H3.out
        have hlast := H2.out.2.2.2.2 _ _ _ _ hF3 rfl
        exact HK.out _ _ _ _ _ _ _ _ _ _ _ _ _ _ _ _ _ _ _ _ _ _ _ _ _ _ _ _ _ _ _ _ _ _ _ _ _ _ _ _ _ _ _ _ _ _ _ _ _ _ _ _ _ _ _ _ _ _ _ _ _ _ _ _ _ _ _ _ _ _ _ _ _ (pos + n) a F _ kv nk _ _ o3 v3 hlast.1 hlast.2
    · have e3 : ¬ ((m : Int) < (pos : Int) + (n : Int)) := by omega
      subst h3
      subst h2
      have hq0 : (0 : Nat) = 0 := rfl
      have hqz : ((0 : Nat) : Int) = 0 := rfl
      have HU0 : Hid (Calls Tryd.prog 29 #[.pointer (some ⟨E.R, 0, none⟩), .slice (some ⟨g, o + pos, none⟩) n (c - pos)] (x.setCell ⟨E.R, 0, none⟩ (.int .u64 0)) (UnmPost E.R g (o + pos) n B { r with rem := 0 } (x.setCell ⟨E.R, 0, none⟩ (.int .u64 0)))) := HU
      have r40 : (x.setCell ⟨E.R, 0, none⟩ (.int .u64 0)).cell? ⟨E.R, 4, none⟩ = some (.bool true) := HB1.out.rd.c4
      clear hn hq hqn h1 r4'
      conv => arg 2; whnf
      go_wp2_with fail
      with_reducible refine (HU0.out).mono ?_
      rintro e x2 hx2
      have H2 := Lib.hid (And.intro hx2.2.1 (HH.out x2 (by obtain ⟨_, h⟩ := hx2; exact ⟨rfl, h⟩)))
      obtain ⟨rfl, _⟩ := hx2
      have q0 : x2.cell? ⟨E.R, 0, none⟩ = some (.int .u64 0) := H2.out.1.c0
      have q2 : x2.cell? ⟨E.R, 2, none⟩ = some (.bool r.ff) := H2.out.1.c2
      have q3 := H2.out.1.c3
      have HFIN : Hid (∀ x3, (∃ ov', OAt x3 E.O ov' ∧ x3.ownsRow E.B1 50 1 ov' (D.length + 1) (outs ++ [.slice (some ⟨g, o + pos, none⟩) n (c - pos)]) ∧ But (fun k => k = E.O ∨ ov.ownBlock = some k) x2 x3) →
          ∃ outs' ov', Bs E g o m x3 (pos + n) a F { r with rem := 0, kp := (r.kp + n) % 4 } kv nk (mixU r.key r.kp B (o + pos) n) (D ++ [⟨g, o + pos, Fr.unm r.key r.kp ((B.drop (o + pos)).take n)⟩]) outs' ov') := by
        refine Lib.hid fun x3 h3 => ?_
        obtain ⟨ov', ho, hw3, hb⟩ := h3
        exact ⟨_, _, H2.out.2.1.out HE.out (ch := ⟨g, o + pos, Fr.unm r.key r.kp ((B.drop (o + pos)).take n)⟩) hb ho hw3 ⟨o + pos, c - pos, by rw [H2.out.2.2.2.1], fun _ => rfl⟩ H2.out.2.2.1 ⟨rfl, by rw [H2.out.2.2.2.1, Nat.add_assoc]; exact Nat.le_refl _⟩⟩
      have HF0 : Hid (∀ (x3 : World), (∃ outs' ov', Bs E g o m x3 (pos + n) a F { r with rem := 0, kp := (r.kp + n) % 4 } kv nk (mixU r.key r.kp B (o + pos) n) (D ++ [⟨g, o + pos, Fr.unm r.key r.kp ((B.drop (o + pos)).take n)⟩]) outs' ov') →
          ∃ outs' ov', Bs E g o m (x3.setCell ⟨E.R, 1, none⟩ (.bool true)) (pos + n) a F { r with rem := 0, kp := (r.kp + n) % 4, fs := decide (0 = 0) } kv nk (mixU r.key r.kp B (o + pos) n) (D ++ [⟨g, o + pos, Fr.unm r.key r.kp ((B.drop (o + pos)).take n)⟩]) outs' ov') := by
        refine Lib.hid fun x3 h3 => ?_
        obtain ⟨o2, v2, h⟩ := h3
        exact ⟨o2, v2, h.rdw HE.out ((But.refl (fun k => k = E.R) x3).setCell ⟨E.R, 1, none⟩ (.bool true) rfl) (h.rd.set1 true)⟩
      cases hff : r.ff with
      | false =>
        rw [hff] at q2
        go_upto_region 77 with fail
        refine reg77_no E.B1 E.C E.R E.O g (o + pos) _ n (c - pos) D.length 0 ov outs x2 (by first | rfl | omega) H2.out.2.1.oa H2.out.2.1.oo HDL.out HE.out.o1 H2.out.2.1.bs H2.out.1.c0 q2 q3 _ _ _ _ _ _ _ _ _ _ _ _ _ _ _ _ _ _ _ _ _ _ _ _ _ _ _ _ _ _ _ _ _ _ _ _ _ _ _ _ _ _ _ _ _ _ _ _ _ _ _ _ _ _ _ _ _ _ _ _ _ _ _ _ _ _ _ _ _ _ _ _ _ _ _ _ _ _ _ _ _ _ _ _ _ _ _ _ _ _ _ _ _ _ _ _ _ _ _ _ _ _ _ _ _ _ _ _ _ _ _ _ _ _ _ _ _ _ _ _ _ _ _ _ _ _ _ _ _ _ _ _ _ _ _ _ _ _ _ _ _ _ _ _ _ _ _ _ _ _ _ _ _ _ _ _ _ _ _ _ _ _ _ _ _ _ _ _ _ _ _ _ _ _ _ _ _ _ _ _ _ _ _ _ _ _ _ _ _ _ _ _ _ _ _ _ _ _ _ _ _ _ _ _ _ _ _ _ _ _ _ _ _ _ _ _ _ _ _ _ _ _ _ _ _ _ _ _ _ _ _ _ _ _ _ _ _ _ _ _ _ _ _ _ _ _ _ _ _ _ _ _ _ _ _ _ _ _ _ _ _ _ _ _ _ _ _ _ _ _ _ _ _ _ _ _ _ _ _ _ _ _ _ _ _ _ _ _ _ _ _ _ _ _ _ _ _ _ _ _ _ _ _ ?_
        intro y273 y274 y275 y276 y277 y278 y279 y280 y281 y282 y283 y284 y285 y286 y287 y288 y289 y290 x3 h3
        have H3 := Lib.hid (HFIN.out x3 h3)
        clear h3
        have z0 : x3.cell? ⟨E.R, 0, none⟩ = some (.int .u64 0) := by obtain ⟨_, _, hb3⟩ := H3.out; exact hb3.rd.c0
        have z1 : x3.frozen? ⟨E.R, 1, none⟩ = false := by obtain ⟨_, _, hb3⟩ := H3.out; exact hb3.rd.fz 1
        have z2 : x3.cell? ⟨E.R, 1, none⟩ = some (.bool false) := by obtain ⟨_, _, hb3⟩ := H3.out; have h := hb3.rd.c1; simp only [hfs] at h; exact h
        go_wp2_with fail
        obtain ⟨o3, v3, hF3⟩ := HF0.out _ H3.out
        have hlast := H2.out.2.2.2.2 _ _ _ _ hF3 rfl
        exact HK.out _ _ _ _ _ _ _ _ _ _ _ _ _ _ _ _ _ _ _ _ _ _ _ _ _ _ _ _ _ _ _ _ _ _ _ _ _ _ _ _ _ _ _ _ _ _ _ _ _ _ _ _ _ _ _ _ _ _ _ _ _ _ _ _ _ _ _ _ _ _ _ _ _ (pos + n) a F _ kv nk _ _ o3 v3 hlast.1 hlast.2
      | true =>
        rw [hff] at q2
        go_upto_region 77 with fail
        refine reg77_last E.B1 E.C E.R E.O g (o + pos) _ n (c - pos) D.length 0 ov outs x2 (by first | rfl | omega) H2.out.2.1.oa H2.out.2.1.oo HDL.out HE.out.o1 H2.out.2.1.bs H2.out.1.c0 q2 q3 hqz _ _ _ _ _ _ _ _ _ _ _ _ _ _ _ _ _ _ _ _ _ _ _ _ _ _ _ _ _ _ _ _ _ _ _ _ _ _ _ _ _ _ _ _ _ _ _ _ _ _ _ _ _ _ _ _ _ _ _ _ _ _ _ _ _ _ _ _ _ _ _ _ _ _ _ _ _ _ _ _ _ _ _ _ _ _ _ _ _ _ _ _ _ _ _ _ _ _ _ _ _ _ _ _ _ _ _ _ _ _ _ _ _ _ _ _ _ _ _ _ _ _ _ _ _ _ _ _ _ _ _ _ _ _ _ _ _ _ _ _ _ _ _ _ _ _ _ _ _ _ _ _ _ _ _ _ _ _ _ _ _ _ _ _ _ _ _ _ _ _ _ _ _ _ _ _ _ _ _ _ _ _ _ _ _ _ _ _ _ _ _ _ _ _ _ _ _ _ _ _ _ _ _ _ _ _ _ _ _ _ _ _ _ _ _ _ _ _ _ _ _ _ _ _ _ _ _ _ _ _ _ _ _ _ _ _ _ _ _ _ _ _ _ _ _ _ _ _ _ _ _ _ _ _ _ _ _ _ _ _ _ _ _ _ _ _ _ _ _ _ _ _ _ _ _ _ _ _ _ _ _ _ _ _ _ _ _ _ _ _ _ _ _ _ _ _ _ _ _ _ _ _ _ ?_
        intro y273 y274 y275 y276 y277 y278 y279 y280 y281 y282 y283 y284 y285 y286 y287 y288 y289 y290 x3 h3
        have H3 := Lib.hid (HFIN.out x3 h3)
        clear h3
        have z0 : x3.cell? ⟨E.R, 0, none⟩ = some (.int .u64 0) := by obtain ⟨_, _, hb3⟩ := H3.out; exact hb3.rd.c0
        have z1 : x3.frozen? ⟨E.R, 1, none⟩ = false := by obtain ⟨_, _, hb3⟩ := H3.out; exact hb3.rd.fz 1
        have z2 : x3.cell? ⟨E.R, 1, none⟩ = some (.bool false) := by obtain ⟨_, _, hb3⟩ := H3.out; have h := hb3.rd.c1; simp only [hfs] at h; exact h
        go_wp2_with fail
        obtain ⟨o3, v3, hF3⟩ := HF0.out _ H3.out
        have hlast := H2.out.2.2.2.2 _ _ _ _ hF3 rfl
        exact HK.out _ _ _ _ _ _ _ _ _ _ _ _ _ _ _ _ _ _ _ _ _ _ _ _ _ _ _ _ _ _ _ _ _ _ _ _ _ _ _ _ _ _ _ _ _ _ _ _ _ _ _ _ _ _ _ _ _ _ _ _ _ _ _ _ _ _ _ _ _ _ _ _ _ (pos + n) a F _ kv nk _ _ o3 v3 hlast.1 hlast.2
  · have e2 : ¬ ((pos : Int) < (m : Int)) := by omega
    conv => arg 2; whnf
    go_wp2_with fail
    exact HS.out hlt _ _ _ _ _ _ _ _ _ _ _ _ _ _ _ _ _ _ _ _ _ _ _ _ _ _ _ _ _ _ _ _ _ _ _ _ _ _ _ _ _ _ _ _ _ _ _ _ _ _ _ _ _ _ _ _ _ _ _ _ _ _ _ _ _ _ _ _ _ _ _ _
end Go.Proofs.YtkkedekgniffoaaDoor
