/-
  wsReadLoop, the hand-out of data: one region.
-/
import Derived.Test.YtkkedekgniffoaaDoorLp
import Derived.Deep.CutRange
namespace Go.Proofs.YtkkedekgniffoaaDoor
open Go.RowKit
def q1 : Code → Code
  | .seq a _ => a
  | c => c
def q2 : Code → Code
  | .seq _ b => b
  | c => c
def qb : Code → Code
  | .block _ c => c
  | c => c
def qt : Code → Code
  | .cond _ a _ => a
  | c => c
def qlp : Code → Code
  | .loop c => c
  | c => c
/-- the loop's body, and parts of it -/
noncomputable def bodyL : Code := qlp (qb (q1 (q2 (q2 (q2 (q2 (q2 (Tryd.f21.body.getD .skip))))))))
noncomputable def dataC : Code := q2 (qb (q2 bodyL))
noncomputable def thenD : Code := qt (q2 dataC)
noncomputable def reg77 : Code := q1 (q1 (q2 (q2 (q2 (q2 (q2 (q2 thenD)))))))
set_option maxHeartbeats 8000000 in
set_option maxRecDepth 1000000 in
theorem reg77_no (B1 C R O g p nn n cc no q : Nat) (ov : Value) (outs : List Value) (x : World) (hnn : nn = n) (hO : OAt x O ov) (hown : x.ownsRow B1 50 1 ov no outs) (hn : no ≤ 2000000) (hOB : O < B1) (hB : B1 ≤ x.heap.size)
    (_k0 : x.cell? ⟨R, 0, none⟩ = some (.int .u64 q)) (k2 : x.cell? ⟨R, 2, none⟩ = some (.bool false)) (k3 : x.cell? ⟨R, 3, none⟩ = some (.bool false))  (c2 c3 c5 c6 c7 c8 c9 c10 c11 c12 c13 c14 c15 c16 c17 c18 c19 c20 c22 c23 c24 c25 c26 c27 c28 c29 c30 c31 c32 c33 c34 c35 c36 c37 c38 c39 c40 c41 c42 c43 c44 c45 c46 c47 c48 c49 c50 c51 c52 c53 c54 c55 c56 c57 c58 c59 c60 c61 c62 c63 c64 c65 c66 c67 c68 c69 c70 c71 c72 c73 c74 c75 c76 c77 c78 c79 c80 c81 c82 c83 c84 c85 c86 c87 c88 c89 c90 c91 c92 c93 c94 c95 c96 c97 c98 c99 c100 c101 c102 c103 c104 c105 c106 c107 c108 c109 c110 c111 c112 c113 c114 c115 c116 c117 c118 c119 c120 c121 c122 c123 c124 c125 c126 c127 c128 c129 c130 c131 c132 c133 c134 c135 c136 c137 c138 c139 c140 c141 c142 c143 c144 c145 c146 c147 c148 c149 c150 c151 c152 c153 c154 c155 c156 c157 c158 c159 c160 c161 c162 c163 c164 c165 c166 c167 c168 c169 c170 c171 c172 c173 c174 c175 c176 c177 c178 c179 c180 c181 c182 c183 c184 c185 c186 c187 c188 c189 c190 c191 c192 c193 c194 c195 c196 c197 c198 c199 c200 c201 c202 c203 c204 c205 c206 c207 c208 c209 c210 c211 c212 c213 c214 c215 c216 c217 c218 c219 c220 c221 c222 c223 c224 c225 c226 c227 c228 c229 c230 c231 c232 c233 c234 c235 c236 c237 c238 c239 c240 c241 c242 c243 c244 c245 c246 c247 c248 c249 c250 c251 c252 c253 c254 c255 c256 c257 c258 c259 c260 c261 c262 c263 c264 c265 c266 c267 c268 c269 c270 c271 c272 c273 c274 c275 c276 c277 c278 c279 c280 c281 c282 c283 c284 c285 c286 c287 c288 c289 c290 c291 c292 c293 c294 c295 c296 c297 c298 c299 c300 c301 : Value)
    (K K1 K2 K3 : Act → World → Prop) (Post : Ending → World → Prop) (hK : ∀ (v273 v274 v275 v276 v277 v278 v279 v280 v281 v282 v283 v284 v285 v286 v287 v288 v289 v290 : Value) (x' : World), (∃ ov', OAt x' O ov' ∧ x'.ownsRow B1 50 1 ov' (no + 1) (outs ++ [.slice (some ⟨g, p, none⟩) n cc]) ∧ But (fun k => k = O ∨ ov.ownBlock = some k) x x') → K ⟨#[.pointer (some ⟨C, 0, none⟩), .pointer (some ⟨R, 0, none⟩), c2, c3, .func (.func 22) #[] #[.pointer (some ⟨O, 0, none⟩)], c5, c6, c7, c8, c9, c10, c11, c12, c13, c14, c15, c16, c17, c18, c19, c20, .slice (some ⟨g, p, none⟩) nn cc, .nilIface, c23, c24, c25, c26, c27, c28, c29, c30, c31, c32, c33, c34, c35, c36, c37, c38, c39, c40, c41, c42, c43, c44, c45, c46, c47, c48, c49, c50, c51, c52, c53, c54, c55, c56, c57, c58, c59, c60, c61, c62, c63, c64, c65, c66, c67, c68, c69, c70, c71, c72, c73, c74, c75, c76, c77, c78, c79, c80, c81, c82, c83, c84, c85, c86, c87, c88, c89, c90, c91, c92, c93, c94, c95, c96, c97, c98, c99, c100, c101, c102, c103, c104, c105, c106, c107, c108, c109, c110, c111, c112, c113, c114, c115, c116, c117, c118, c119, c120, c121, c122, c123, c124, c125, c126, c127, c128, c129, c130, c131, c132, c133, c134, c135, c136, c137, c138, c139, c140, c141, c142, c143, c144, c145, c146, c147, c148, c149, c150, c151, c152, c153, c154, c155, c156, c157, c158, c159, c160, c161, c162, c163, c164, c165, c166, c167, c168, c169, c170, c171, c172, c173, c174, c175, c176, c177, c178, c179, c180, c181, c182, c183, c184, c185, c186, c187, c188, c189, c190, c191, c192, c193, c194, c195, c196, c197, c198, c199, c200, c201, c202, c203, c204, c205, c206, c207, c208, c209, c210, c211, c212, c213, c214, c215, c216, c217, c218, c219, c220, c221, c222, c223, c224, c225, c226, c227, c228, c229, c230, c231, c232, c233, c234, c235, c236, c237, c238, c239, c240, c241, c242, c243, c244, c245, c246, c247, c248, c249, c250, c251, c252, c253, c254, c255, c256, c257, c258, c259, c260, c261, c262, c263, c264, c265, c266, c267, c268, c269, c270, c271, c272, v273, v274, v275, v276, v277, v278, v279, v280, v281, v282, v283, v284, v285, v286, v287, v288, v289, v290, c291, c292, c293, c294, c295, c296, c297, c298, c299, c300, c301], []⟩ x') :
    Code.wp Tryd.prog reg77 (Exit.then K (Exit.then K1 (Exit.inBlock 1 (Exit.then K2 (Exit.inBlock 0 (Exit.then K3 (bodyPost Tryd.prog Tryd.f21 Post))))))) ⟨#[.pointer (some ⟨C, 0, none⟩), .pointer (some ⟨R, 0, none⟩), c2, c3, .func (.func 22) #[] #[.pointer (some ⟨O, 0, none⟩)], c5, c6, c7, c8, c9, c10, c11, c12, c13, c14, c15, c16, c17, c18, c19, c20, .slice (some ⟨g, p, none⟩) nn cc, c22, c23, c24, c25, c26, c27, c28, c29, c30, c31, c32, c33, c34, c35, c36, c37, c38, c39, c40, c41, c42, c43, c44, c45, c46, c47, c48, c49, c50, c51, c52, c53, c54, c55, c56, c57, c58, c59, c60, c61, c62, c63, c64, c65, c66, c67, c68, c69, c70, c71, c72, c73, c74, c75, c76, c77, c78, c79, c80, c81, c82, c83, c84, c85, c86, c87, c88, c89, c90, c91, c92, c93, c94, c95, c96, c97, c98, c99, c100, c101, c102, c103, c104, c105, c106, c107, c108, c109, c110, c111, c112, c113, c114, c115, c116, c117, c118, c119, c120, c121, c122, c123, c124, c125, c126, c127, c128, c129, c130, c131, c132, c133, c134, c135, c136, c137, c138, c139, c140, c141, c142, c143, c144, c145, c146, c147, c148, c149, c150, c151, c152, c153, c154, c155, c156, c157, c158, c159, c160, c161, c162, c163, c164, c165, c166, c167, c168, c169, c170, c171, c172, c173, c174, c175, c176, c177, c178, c179, c180, c181, c182, c183, c184, c185, c186, c187, c188, c189, c190, c191, c192, c193, c194, c195, c196, c197, c198, c199, c200, c201, c202, c203, c204, c205, c206, c207, c208, c209, c210, c211, c212, c213, c214, c215, c216, c217, c218, c219, c220, c221, c222, c223, c224, c225, c226, c227, c228, c229, c230, c231, c232, c233, c234, c235, c236, c237, c238, c239, c240, c241, c242, c243, c244, c245, c246, c247, c248, c249, c250, c251, c252, c253, c254, c255, c256, c257, c258, c259, c260, c261, c262, c263, c264, c265, c266, c267, c268, c269, c270, c271, c272, c273, c274, c275, c276, c277, c278, c279, c280, c281, c282, c283, c284, c285, c286, c287, c288, c289, c290, c291, c292, c293, c294, c295, c296, c297, c298, c299, c300, c301], []⟩ x := by
  subst hnn
  have HO := Lib.hid (And.intro hO (And.intro hown hB))
  have HK := Lib.hid hK
  clear hO hown hK
  have HC : Hid (∀ (b2 : Bool) (w' : World), w'.heap = x.heap → Calls Tryd.prog 22 #[.slice (some ⟨g, p, none⟩) nn cc, .bool false, .bool b2, .pointer (some ⟨O, 0, none⟩)] w' (ClPost B1 O no ov (.slice (some ⟨g, p, none⟩) nn cc) outs w')) := by
    refine Lib.hid fun b2 w' hw => ?_
    exact clo_any B1 O no ov _ _ _ _ _ outs w' (HO.out.1.at (by rw [hw])) (own_move HO.out.2.1 fun q hq => by rw [hw]) hn hOB (by rw [hw]; exact HO.out.2.2)
  conv => arg 2; whnf
  go_still_tail 17, (by kernel_rfl)
  change wpList _ _ _ _ _ x.drew
  go_wp2_with fail
  with_reducible refine (HC.out _ _ ?hw).mono ?_
  case hw => rfl
  rintro e x3 ⟨rfl, ov', ho3, hw3, hb3⟩
  have H3 := Lib.hid (show ∃ ov', OAt x3 O ov' ∧ x3.ownsRow B1 50 1 ov' (no + 1) (outs ++ [.slice (some ⟨g, p, none⟩) nn cc]) ∧ But (fun k => k = O ∨ ov.ownBlock = some k) x x3 from ⟨ov', ho3, hw3, ⟨hb3.os, hb3.tape, hb3.output, hb3.size, hb3.block⟩⟩)
  clear ho3 hw3 hb3
  go_wp2_with fail
  exact HK.out _ _ _ _ _ _ _ _ _ _ _ _ _ _ _ _ _ _ x3 H3.out
end Go.Proofs.YtkkedekgniffoaaDoor
