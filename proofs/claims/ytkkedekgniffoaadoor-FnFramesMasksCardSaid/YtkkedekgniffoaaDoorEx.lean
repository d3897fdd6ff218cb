/-
  wsReadLoop: a frame's length.
-/
import Derived.Test.YtkkedekgniffoaaDoorHw
namespace Go.Proofs.YtkkedekgniffoaaDoor
open Go.RowKit
def p1 : Code → Code
  | .seq a _ => a
  | c => c
def p2 : Code → Code
  | .seq _ b => b
  | c => c
def pb : Code → Code
  | .block _ c => c
  | c => c
def pt : Code → Code
  | .cond _ a _ => a
  | c => c
def plp : Code → Code
  | .loop c => c
  | c => c
theorem Bs.getI {E : Nm} {g o m : Nat} {x : World} {pos a : Nat} {F : List Pc} {r : RdV} {kv : Value} {nk : Nat} {B : List UInt8} {D : List Ch} {outs : List Value} {ov : Value} (hE : E.Ok) (h : Bs E g o m x pos a F r kv nk B D outs ov)
    (need c : Nat) (ni : Int) (hni : (need : Int) = ni) (hn0 : 0 < need) (hn : need ≤ 10) (hm : m ≤ 1000000) (hmc : m ≤ c) (hm0 : 0 < m) :
    Calls Tryd.prog 24 #[.iface 67 (.pointer (some ⟨E.P, 0, none⟩)), .slice (some ⟨g, o, none⟩) m c, .int .u64 pos, .int .u64 ni] x (GetB E g o m need pos F r kv nk B D outs ov) := by
  subst hni
  exact h.get hE need c hn0 hn hm hmc hm0
/-- the loop's body, its first half, what is done at a head -/
noncomputable def bodyH : Code := plp (pb (p1 (p2 (p2 (p2 (p2 (p2 (Tryd.f21.body.getD .skip))))))))
noncomputable def hdrC : Code := p1 (pb (p2 bodyH))
noncomputable def hdrB : Code := pt (p2 hdrC)
/-- from the opcode's switch on -/
noncomputable def fromSw : Code := p2 (p2 (p2 (p2 (p2 (p2 (p2 (p2 (p2 (p2 (p2 (p2 hdrB)))))))))))
noncomputable def swC : Code := p1 fromSw
noncomputable def extC : Code := p1 (p2 fromSw)
noncomputable def maskC : Code := p1 (p2 (p2 fromSw))
noncomputable def ctlC : Code := p1 (p2 (p2 (p2 fromSw)))
set_option maxHeartbeats 8000000 in
set_option maxRecDepth 1000000 in
theorem ext_short (E : Nm) (hE : E.Ok) (g o m c n7 : Nat) (x : World) (pos a : Nat) (F : List Pc) (r : RdV) (kv : Value) (nk : Nat) (B : List UInt8) (D : List Ch) (outs : List Value) (ov : Value) (hB : Bs E g o m x pos a F r kv nk B D outs ov) (hr : r.rem = n7) (h7 : n7 < 126) 
    (c4 c5 c6 c7 c8 c9 c10 c11 c12 c14 c15 c16 c17 c18 c19 c20 c21 c22 c23 c24 c25 c26 c27 c28 c29 c30 c31 c32 c33 c34 c35 c36 c37 c38 c39 c40 c41 c42 c43 c44 c45 c46 c47 c48 c49 c50 c51 c52 c53 c54 c55 c56 c57 c58 c59 c60 c61 c62 c63 c64 c65 c66 c67 c68 c69 c70 c71 c72 c73 c74 c75 c76 c77 c78 c79 c80 c81 c82 c83 c84 c85 c86 c87 c88 c89 c90 c91 c92 c93 c94 c95 c96 c97 c98 c99 c100 c101 c102 c103 c104 c105 c106 c107 c108 c109 c110 c111 c112 c113 c114 c115 c116 c117 c118 c119 c120 c121 c122 c123 c124 c125 c126 c127 c128 c129 c130 c131 c132 c133 c134 c135 c136 c137 c138 c139 c140 c141 c142 c143 c144 c145 c146 c147 c148 c149 c150 c151 c152 c153 c154 c155 c156 c157 c158 c159 c160 c161 c162 c163 c164 c165 c166 c167 c168 c169 c170 c171 c172 c173 c174 c175 c176 c177 c178 c179 c180 c181 c182 c183 c184 c185 c186 c187 c188 c189 c190 c191 c192 c193 c194 c195 c196 c197 c198 c199 c200 c201 c202 c203 c204 c205 c206 c207 c208 c209 c210 c211 c212 c213 c214 c215 c216 c217 c218 c219 c220 c221 c222 c223 c224 c225 c226 c227 c228 c229 c230 c231 c232 c233 c234 c235 c236 c237 c238 c239 c240 c241 c242 c243 c244 c245 c246 c247 c248 c249 c250 c251 c252 c253 c254 c255 c256 c257 c258 c259 c260 c261 c262 c263 c264 c265 c266 c267 c268 c269 c270 c271 c272 c273 c274 c275 c276 c277 c278 c279 c280 c281 c282 c283 c284 c285 c286 c287 c288 c289 c290 c291 c292 c293 c294 c295 c296 c297 c298 c299 c300 c301 : Value) (K K1 K2 K3 : Act → World → Prop) (Post : Ending → World → Prop)
    (hErr : Fr.ext n7 (rest B (o + pos) F) = none → ∀ te ve x', Eo E x' kv 0 D outs ov → Post (.returned (.iface te ve)) x')
    (hK : ∀ (v10 v11 v12 v141 v142 v143 v144 v145 v146 v147 v148 v149 v150 v151 v152 v153 v154 v155 v156 v157 v158 v159 v160 v161 v162 v163 v164 v165 v166 v167 v168 v169 v170 v171 v172 v173 v174 v175 v176 v177 v178 v179 v180 v181 v182 v183 v184 v185 v186 v187 v188 v189 v190 v191 : Value) (x' : World) (rem pos2 a2 : Nat) (F2 : List Pc), Fr.ext n7 (rest B (o + pos) F) = some (rem, rest B (o + pos2) F2) → pos ≤ pos2 → Bs E g o m x' pos2 a2 F2 { r with rem := rem } kv nk B D outs ov → K ⟨#[.pointer (some ⟨E.C, 0, none⟩), .pointer (some ⟨E.R, 0, none⟩), .iface 67 (.pointer (some ⟨E.P, 0, none⟩)), .slice (some ⟨g, o, none⟩) m c, c4, c5, c6, c7, c8, c9, v10, v11, v12, .int .u64 pos2, c14, c15, c16, c17, c18, c19, c20, c21, c22, c23, c24, c25, c26, c27, c28, c29, c30, c31, c32, c33, c34, c35, c36, c37, c38, c39, c40, c41, c42, c43, c44, c45, c46, c47, c48, c49, c50, c51, c52, c53, c54, c55, c56, c57, c58, c59, c60, c61, c62, c63, c64, c65, c66, c67, c68, c69, c70, c71, c72, c73, c74, c75, c76, c77, c78, c79, c80, c81, c82, c83, c84, c85, c86, c87, c88, c89, c90, c91, c92, c93, c94, c95, c96, c97, c98, c99, c100, c101, c102, c103, c104, c105, c106, c107, c108, c109, c110, c111, c112, c113, c114, c115, c116, c117, c118, c119, c120, c121, c122, c123, c124, c125, c126, c127, c128, c129, c130, c131, c132, c133, c134, c135, c136, c137, c138, c139, c140, v141, v142, v143, v144, v145, v146, v147, v148, v149, v150, v151, v152, v153, v154, v155, v156, v157, v158, v159, v160, v161, v162, v163, v164, v165, v166, v167, v168, v169, v170, v171, v172, v173, v174, v175, v176, v177, v178, v179, v180, v181, v182, v183, v184, v185, v186, v187, v188, v189, v190, v191, c192, c193, c194, c195, c196, c197, c198, c199, c200, c201, c202, c203, c204, c205, c206, c207, c208, c209, c210, c211, c212, c213, c214, c215, c216, c217, c218, c219, c220, c221, c222, c223, c224, c225, c226, c227, c228, c229, c230, c231, c232, c233, c234, c235, c236, c237, c238, c239, c240, c241, c242, c243, c244, c245, c246, c247, c248, c249, c250, c251, c252, c253, c254, c255, c256, c257, c258, c259, c260, c261, c262, c263, c264, c265, c266, c267, c268, c269, c270, c271, c272, c273, c274, c275, c276, c277, c278, c279, c280, c281, c282, c283, c284, c285, c286, c287, c288, c289, c290, c291, c292, c293, c294, c295, c296, c297, c298, c299, c300, c301], []⟩ x') :
    Code.wp Tryd.prog extC (Exit.then K (Exit.then K1 (Exit.inBlock 1 (Exit.then K2 (Exit.inBlock 0 (Exit.then K3 (bodyPost Tryd.prog Tryd.f21 Post))))))) ⟨#[.pointer (some ⟨E.C, 0, none⟩), .pointer (some ⟨E.R, 0, none⟩), .iface 67 (.pointer (some ⟨E.P, 0, none⟩)), .slice (some ⟨g, o, none⟩) m c, c4, c5, c6, c7, c8, c9, c10, c11, c12, .int .u64 pos, c14, c15, c16, c17, c18, c19, c20, c21, c22, c23, c24, c25, c26, c27, c28, c29, c30, c31, c32, c33, c34, c35, c36, c37, c38, c39, c40, c41, c42, c43, c44, c45, c46, c47, c48, c49, c50, c51, c52, c53, c54, c55, c56, c57, c58, c59, c60, c61, c62, c63, c64, c65, c66, c67, c68, c69, c70, c71, c72, c73, c74, c75, c76, c77, c78, c79, c80, c81, c82, c83, c84, c85, c86, c87, c88, c89, c90, c91, c92, c93, c94, c95, c96, c97, c98, c99, c100, c101, c102, c103, c104, c105, c106, c107, c108, c109, c110, c111, c112, c113, c114, c115, c116, c117, c118, c119, c120, c121, c122, c123, c124, c125, c126, c127, c128, c129, c130, c131, c132, c133, c134, c135, c136, c137, c138, c139, c140, c141, c142, c143, c144, c145, c146, c147, c148, c149, c150, c151, c152, c153, c154, c155, c156, c157, c158, c159, c160, c161, c162, c163, c164, c165, c166, c167, c168, c169, c170, c171, c172, c173, c174, c175, c176, c177, c178, c179, c180, c181, c182, c183, c184, c185, c186, c187, c188, c189, c190, c191, c192, c193, c194, c195, c196, c197, c198, c199, c200, c201, c202, c203, c204, c205, c206, c207, c208, c209, c210, c211, c212, c213, c214, c215, c216, c217, c218, c219, c220, c221, c222, c223, c224, c225, c226, c227, c228, c229, c230, c231, c232, c233, c234, c235, c236, c237, c238, c239, c240, c241, c242, c243, c244, c245, c246, c247, c248, c249, c250, c251, c252, c253, c254, c255, c256, c257, c258, c259, c260, c261, c262, c263, c264, c265, c266, c267, c268, c269, c270, c271, c272, c273, c274, c275, c276, c277, c278, c279, c280, c281, c282, c283, c284, c285, c286, c287, c288, c289, c290, c291, c292, c293, c294, c295, c296, c297, c298, c299, c300, c301], []⟩ x := by
  have HE := Lib.hid hE
  have HB := Lib.hid hB
  have HK := Lib.hid hK
  have HR := Lib.hid hErr
  have r0 := hB.rd.c0
  rw [hr] at r0
  have HRR := Lib.hid hr
  clear hE hB hK hErr hr
  conv => arg 2; whnf
  have e1 : ¬ ((n7 : Int) = 126) := by omega
  have e2 : ¬ ((n7 : Int) = 127) := by omega
  go_wp2_with fail
  refine HK.out _ _ _ _ _ _ _ _ _ _ _ _ _ _ _ _ _ _ _ _ _ _ _ _ _ _ _ _ _ _ _ _ _ _ _ _ _ _ _ _ _ _ _ _ _ _ _ _ _ _ _ _ _ _ x n7 pos a F ?_ (Nat.le_refl _) ?_
  · unfold Fr.ext
    rw [if_neg (by omega), if_neg (by omega)]
  · have h := HB.out
    have e : ({ r with rem := n7 } : RdV) = r := by rw [← HRR.out]
    rw [e]; exact h


set_option maxHeartbeats 8000000 in
set_option maxRecDepth 1000000 in
theorem ext_two (E : Nm) (hE : E.Ok) (g o m c n7 : Nat) (x : World) (pos a : Nat) (F : List Pc) (r : RdV) (kv : Value) (nk : Nat) (B : List UInt8) (D : List Ch) (outs : List Value) (ov : Value) (hB : Bs E g o m x pos a F r kv nk B D outs ov) (hr : r.rem = n7) (h7 : n7 = 126) (hm : m ≤ 1000000) (hmc : m ≤ c) (hm0 : 0 < m)
    (c4 c5 c6 c7 c8 c9 c10 c11 c12 c14 c15 c16 c17 c18 c19 c20 c21 c22 c23 c24 c25 c26 c27 c28 c29 c30 c31 c32 c33 c34 c35 c36 c37 c38 c39 c40 c41 c42 c43 c44 c45 c46 c47 c48 c49 c50 c51 c52 c53 c54 c55 c56 c57 c58 c59 c60 c61 c62 c63 c64 c65 c66 c67 c68 c69 c70 c71 c72 c73 c74 c75 c76 c77 c78 c79 c80 c81 c82 c83 c84 c85 c86 c87 c88 c89 c90 c91 c92 c93 c94 c95 c96 c97 c98 c99 c100 c101 c102 c103 c104 c105 c106 c107 c108 c109 c110 c111 c112 c113 c114 c115 c116 c117 c118 c119 c120 c121 c122 c123 c124 c125 c126 c127 c128 c129 c130 c131 c132 c133 c134 c135 c136 c137 c138 c139 c140 c141 c142 c143 c144 c145 c146 c147 c148 c149 c150 c151 c152 c153 c154 c155 c156 c157 c158 c159 c160 c161 c162 c163 c164 c165 c166 c167 c168 c169 c170 c171 c172 c173 c174 c175 c176 c177 c178 c179 c180 c181 c182 c183 c184 c185 c186 c187 c188 c189 c190 c191 c192 c193 c194 c195 c196 c197 c198 c199 c200 c201 c202 c203 c204 c205 c206 c207 c208 c209 c210 c211 c212 c213 c214 c215 c216 c217 c218 c219 c220 c221 c222 c223 c224 c225 c226 c227 c228 c229 c230 c231 c232 c233 c234 c235 c236 c237 c238 c239 c240 c241 c242 c243 c244 c245 c246 c247 c248 c249 c250 c251 c252 c253 c254 c255 c256 c257 c258 c259 c260 c261 c262 c263 c264 c265 c266 c267 c268 c269 c270 c271 c272 c273 c274 c275 c276 c277 c278 c279 c280 c281 c282 c283 c284 c285 c286 c287 c288 c289 c290 c291 c292 c293 c294 c295 c296 c297 c298 c299 c300 c301 : Value) (K K1 K2 K3 : Act → World → Prop) (Post : Ending → World → Prop)
    (hErr : Fr.ext n7 (rest B (o + pos) F) = none → ∀ te ve x', Eo E x' kv 0 D outs ov → Post (.returned (.iface te ve)) x')
    (hK : ∀ (v10 v11 v12 v141 v142 v143 v144 v145 v146 v147 v148 v149 v150 v151 v152 v153 v154 v155 v156 v157 v158 v159 v160 v161 v162 v163 v164 v165 v166 v167 v168 v169 v170 v171 v172 v173 v174 v175 v176 v177 v178 v179 v180 v181 v182 v183 v184 v185 v186 v187 v188 v189 v190 v191 : Value) (x' : World) (rem pos2 a2 : Nat) (F2 : List Pc), Fr.ext n7 (rest B (o + pos) F) = some (rem, rest B (o + pos2) F2) → pos ≤ pos2 → Bs E g o m x' pos2 a2 F2 { r with rem := rem } kv nk B D outs ov → K ⟨#[.pointer (some ⟨E.C, 0, none⟩), .pointer (some ⟨E.R, 0, none⟩), .iface 67 (.pointer (some ⟨E.P, 0, none⟩)), .slice (some ⟨g, o, none⟩) m c, c4, c5, c6, c7, c8, c9, v10, v11, v12, .int .u64 pos2, c14, c15, c16, c17, c18, c19, c20, c21, c22, c23, c24, c25, c26, c27, c28, c29, c30, c31, c32, c33, c34, c35, c36, c37, c38, c39, c40, c41, c42, c43, c44, c45, c46, c47, c48, c49, c50, c51, c52, c53, c54, c55, c56, c57, c58, c59, c60, c61, c62, c63, c64, c65, c66, c67, c68, c69, c70, c71, c72, c73, c74, c75, c76, c77, c78, c79, c80, c81, c82, c83, c84, c85, c86, c87, c88, c89, c90, c91, c92, c93, c94, c95, c96, c97, c98, c99, c100, c101, c102, c103, c104, c105, c106, c107, c108, c109, c110, c111, c112, c113, c114, c115, c116, c117, c118, c119, c120, c121, c122, c123, c124, c125, c126, c127, c128, c129, c130, c131, c132, c133, c134, c135, c136, c137, c138, c139, c140, v141, v142, v143, v144, v145, v146, v147, v148, v149, v150, v151, v152, v153, v154, v155, v156, v157, v158, v159, v160, v161, v162, v163, v164, v165, v166, v167, v168, v169, v170, v171, v172, v173, v174, v175, v176, v177, v178, v179, v180, v181, v182, v183, v184, v185, v186, v187, v188, v189, v190, v191, c192, c193, c194, c195, c196, c197, c198, c199, c200, c201, c202, c203, c204, c205, c206, c207, c208, c209, c210, c211, c212, c213, c214, c215, c216, c217, c218, c219, c220, c221, c222, c223, c224, c225, c226, c227, c228, c229, c230, c231, c232, c233, c234, c235, c236, c237, c238, c239, c240, c241, c242, c243, c244, c245, c246, c247, c248, c249, c250, c251, c252, c253, c254, c255, c256, c257, c258, c259, c260, c261, c262, c263, c264, c265, c266, c267, c268, c269, c270, c271, c272, c273, c274, c275, c276, c277, c278, c279, c280, c281, c282, c283, c284, c285, c286, c287, c288, c289, c290, c291, c292, c293, c294, c295, c296, c297, c298, c299, c300, c301], []⟩ x') :
    Code.wp Tryd.prog extC (Exit.then K (Exit.then K1 (Exit.inBlock 1 (Exit.then K2 (Exit.inBlock 0 (Exit.then K3 (bodyPost Tryd.prog Tryd.f21 Post))))))) ⟨#[.pointer (some ⟨E.C, 0, none⟩), .pointer (some ⟨E.R, 0, none⟩), .iface 67 (.pointer (some ⟨E.P, 0, none⟩)), .slice (some ⟨g, o, none⟩) m c, c4, c5, c6, c7, c8, c9, c10, c11, c12, .int .u64 pos, c14, c15, c16, c17, c18, c19, c20, c21, c22, c23, c24, c25, c26, c27, c28, c29, c30, c31, c32, c33, c34, c35, c36, c37, c38, c39, c40, c41, c42, c43, c44, c45, c46, c47, c48, c49, c50, c51, c52, c53, c54, c55, c56, c57, c58, c59, c60, c61, c62, c63, c64, c65, c66, c67, c68, c69, c70, c71, c72, c73, c74, c75, c76, c77, c78, c79, c80, c81, c82, c83, c84, c85, c86, c87, c88, c89, c90, c91, c92, c93, c94, c95, c96, c97, c98, c99, c100, c101, c102, c103, c104, c105, c106, c107, c108, c109, c110, c111, c112, c113, c114, c115, c116, c117, c118, c119, c120, c121, c122, c123, c124, c125, c126, c127, c128, c129, c130, c131, c132, c133, c134, c135, c136, c137, c138, c139, c140, c141, c142, c143, c144, c145, c146, c147, c148, c149, c150, c151, c152, c153, c154, c155, c156, c157, c158, c159, c160, c161, c162, c163, c164, c165, c166, c167, c168, c169, c170, c171, c172, c173, c174, c175, c176, c177, c178, c179, c180, c181, c182, c183, c184, c185, c186, c187, c188, c189, c190, c191, c192, c193, c194, c195, c196, c197, c198, c199, c200, c201, c202, c203, c204, c205, c206, c207, c208, c209, c210, c211, c212, c213, c214, c215, c216, c217, c218, c219, c220, c221, c222, c223, c224, c225, c226, c227, c228, c229, c230, c231, c232, c233, c234, c235, c236, c237, c238, c239, c240, c241, c242, c243, c244, c245, c246, c247, c248, c249, c250, c251, c252, c253, c254, c255, c256, c257, c258, c259, c260, c261, c262, c263, c264, c265, c266, c267, c268, c269, c270, c271, c272, c273, c274, c275, c276, c277, c278, c279, c280, c281, c282, c283, c284, c285, c286, c287, c288, c289, c290, c291, c292, c293, c294, c295, c296, c297, c298, c299, c300, c301], []⟩ x := by
  have HE := Lib.hid hE
  have HB := Lib.hid hB
  have HK := Lib.hid hK
  have HR := Lib.hid hErr
  have r0 := hB.rd.c0
  rw [hr] at r0
  have HRR := Lib.hid hr
  clear hE hB hK hErr hr
  conv => arg 2; whnf
  subst h7
  go_wp2_with fail
  with_reducible refine (HB.out.getI HE.out 2 c 2 (by decide) (by decide) (by decide) hm hmc hm0).mono ?_
  rintro e x1 (⟨te, ve, rfl, h1⟩ | ⟨g', o', c', pos', a', F', rfl, h1⟩)
  · go_wp2_with fail
    refine HR.out ?_ te ve x1 h1.out.2
    unfold Fr.ext
    rw [if_pos rfl, if_neg (by have := h1.out.1; omega)]
  · obtain ⟨b0, b1, l2, hl⟩ : ∃ b0 b1 l2, rest B (o + pos) F = b0 :: b1 :: l2 := by
      have h := h1.out.2.2.1
      match hh : rest B (o + pos) F with
      | [] => rw [hh] at h; simp at h
      | [_] => rw [hh] at h; simp at h
      | b0 :: b1 :: l2 => exact ⟨b0, b1, l2, rfl⟩
    have k0 := h1.out.2.2.2.2.1 0 b0 (by decide) (by rw [hl]; rfl)
    have k1 := h1.out.2.2.2.2.1 1 b1 (by decide) (by rw [hl]; rfl)
    have HC := Lib.hid (Tryd.binary_BE_Uint16 g' o' 2 c' b0 b1 x1 (Nat.le_refl _) k0 k1)
    have HL := Lib.hid hl
    have hbe : Lib.beNat [b0, b1] < 65536 := by
      have := beNat_lt [b0, b1] 0
      simpa [Lib.beNat] using this
    obtain ⟨st, hst⟩ : ∃ st, Lib.beNat [b0, b1] = st := ⟨_, rfl⟩
    rw [hst] at HC hbe
    have HST := Lib.hid hst
    have hw : IntKind.u64.wrap (st : Int) = (st : Int) := IntWalk.u64_in _ (by omega)
    clear hl k0 k1 hst
    go_wp2_with fail
    with_reducible refine (HC.out).mono ?_
    rintro e x2 ⟨rfl, hb2⟩
    have HB2 := Lib.hid (h1.out.2.2.2.2.2.same HE.out hb2)
    clear hb2
    have f0 := HB2.out.rd.fz 0
    have r0' := HB2.out.rd.c0
    go_wp2_with fail
    refine HK.out _ _ _ _ _ _ _ _ _ _ _ _ _ _ _ _ _ _ _ _ _ _ _ _ _ _ _ _ _ _ _ _ _ _ _ _ _ _ _ _ _ _ _ _ _ _ _ _ _ _ _ _ _ _ _ st pos' a' F' ?_ h1.out.1 (HB2.out.rdw HE.out ((But.refl (fun k => k = E.R) x2).setCell ⟨E.R, 0, none⟩ (.int .u64 st) rfl) (HB2.out.rd.set0 st))
    unfold Fr.ext
    rw [if_pos rfl, if_pos h1.out.2.2.1, h1.out.2.2.2.1, HL.out, ← HST.out]
    rfl


set_option maxHeartbeats 8000000 in
set_option maxRecDepth 1000000 in
theorem ext_eight (E : Nm) (hE : E.Ok) (g o m c n7 : Nat) (x : World) (pos a : Nat) (F : List Pc) (r : RdV) (kv : Value) (nk : Nat) (B : List UInt8) (D : List Ch) (outs : List Value) (ov : Value) (hB : Bs E g o m x pos a F r kv nk B D outs ov) (hr : r.rem = n7) (h7 : n7 = 127) (hm : m ≤ 1000000) (hmc : m ≤ c) (hm0 : 0 < m)
    (c4 c5 c6 c7 c8 c9 c10 c11 c12 c14 c15 c16 c17 c18 c19 c20 c21 c22 c23 c24 c25 c26 c27 c28 c29 c30 c31 c32 c33 c34 c35 c36 c37 c38 c39 c40 c41 c42 c43 c44 c45 c46 c47 c48 c49 c50 c51 c52 c53 c54 c55 c56 c57 c58 c59 c60 c61 c62 c63 c64 c65 c66 c67 c68 c69 c70 c71 c72 c73 c74 c75 c76 c77 c78 c79 c80 c81 c82 c83 c84 c85 c86 c87 c88 c89 c90 c91 c92 c93 c94 c95 c96 c97 c98 c99 c100 c101 c102 c103 c104 c105 c106 c107 c108 c109 c110 c111 c112 c113 c114 c115 c116 c117 c118 c119 c120 c121 c122 c123 c124 c125 c126 c127 c128 c129 c130 c131 c132 c133 c134 c135 c136 c137 c138 c139 c140 c141 c142 c143 c144 c145 c146 c147 c148 c149 c150 c151 c152 c153 c154 c155 c156 c157 c158 c159 c160 c161 c162 c163 c164 c165 c166 c167 c168 c169 c170 c171 c172 c173 c174 c175 c176 c177 c178 c179 c180 c181 c182 c183 c184 c185 c186 c187 c188 c189 c190 c191 c192 c193 c194 c195 c196 c197 c198 c199 c200 c201 c202 c203 c204 c205 c206 c207 c208 c209 c210 c211 c212 c213 c214 c215 c216 c217 c218 c219 c220 c221 c222 c223 c224 c225 c226 c227 c228 c229 c230 c231 c232 c233 c234 c235 c236 c237 c238 c239 c240 c241 c242 c243 c244 c245 c246 c247 c248 c249 c250 c251 c252 c253 c254 c255 c256 c257 c258 c259 c260 c261 c262 c263 c264 c265 c266 c267 c268 c269 c270 c271 c272 c273 c274 c275 c276 c277 c278 c279 c280 c281 c282 c283 c284 c285 c286 c287 c288 c289 c290 c291 c292 c293 c294 c295 c296 c297 c298 c299 c300 c301 : Value) (K K1 K2 K3 : Act → World → Prop) (Post : Ending → World → Prop)
    (hErr : Fr.ext n7 (rest B (o + pos) F) = none → ∀ te ve x', Eo E x' kv 0 D outs ov → Post (.returned (.iface te ve)) x')
    (hK : ∀ (v10 v11 v12 v141 v142 v143 v144 v145 v146 v147 v148 v149 v150 v151 v152 v153 v154 v155 v156 v157 v158 v159 v160 v161 v162 v163 v164 v165 v166 v167 v168 v169 v170 v171 v172 v173 v174 v175 v176 v177 v178 v179 v180 v181 v182 v183 v184 v185 v186 v187 v188 v189 v190 v191 : Value) (x' : World) (rem pos2 a2 : Nat) (F2 : List Pc), Fr.ext n7 (rest B (o + pos) F) = some (rem, rest B (o + pos2) F2) → pos ≤ pos2 → Bs E g o m x' pos2 a2 F2 { r with rem := rem } kv nk B D outs ov → K ⟨#[.pointer (some ⟨E.C, 0, none⟩), .pointer (some ⟨E.R, 0, none⟩), .iface 67 (.pointer (some ⟨E.P, 0, none⟩)), .slice (some ⟨g, o, none⟩) m c, c4, c5, c6, c7, c8, c9, v10, v11, v12, .int .u64 pos2, c14, c15, c16, c17, c18, c19, c20, c21, c22, c23, c24, c25, c26, c27, c28, c29, c30, c31, c32, c33, c34, c35, c36, c37, c38, c39, c40, c41, c42, c43, c44, c45, c46, c47, c48, c49, c50, c51, c52, c53, c54, c55, c56, c57, c58, c59, c60, c61, c62, c63, c64, c65, c66, c67, c68, c69, c70, c71, c72, c73, c74, c75, c76, c77, c78, c79, c80, c81, c82, c83, c84, c85, c86, c87, c88, c89, c90, c91, c92, c93, c94, c95, c96, c97, c98, c99, c100, c101, c102, c103, c104, c105, c106, c107, c108, c109, c110, c111, c112, c113, c114, c115, c116, c117, c118, c119, c120, c121, c122, c123, c124, c125, c126, c127, c128, c129, c130, c131, c132, c133, c134, c135, c136, c137, c138, c139, c140, v141, v142, v143, v144, v145, v146, v147, v148, v149, v150, v151, v152, v153, v154, v155, v156, v157, v158, v159, v160, v161, v162, v163, v164, v165, v166, v167, v168, v169, v170, v171, v172, v173, v174, v175, v176, v177, v178, v179, v180, v181, v182, v183, v184, v185, v186, v187, v188, v189, v190, v191, c192, c193, c194, c195, c196, c197, c198, c199, c200, c201, c202, c203, c204, c205, c206, c207, c208, c209, c210, c211, c212, c213, c214, c215, c216, c217, c218, c219, c220, c221, c222, c223, c224, c225, c226, c227, c228, c229, c230, c231, c232, c233, c234, c235, c236, c237, c238, c239, c240, c241, c242, c243, c244, c245, c246, c247, c248, c249, c250, c251, c252, c253, c254, c255, c256, c257, c258, c259, c260, c261, c262, c263, c264, c265, c266, c267, c268, c269, c270, c271, c272, c273, c274, c275, c276, c277, c278, c279, c280, c281, c282, c283, c284, c285, c286, c287, c288, c289, c290, c291, c292, c293, c294, c295, c296, c297, c298, c299, c300, c301], []⟩ x') :
    Code.wp Tryd.prog extC (Exit.then K (Exit.then K1 (Exit.inBlock 1 (Exit.then K2 (Exit.inBlock 0 (Exit.then K3 (bodyPost Tryd.prog Tryd.f21 Post))))))) ⟨#[.pointer (some ⟨E.C, 0, none⟩), .pointer (some ⟨E.R, 0, none⟩), .iface 67 (.pointer (some ⟨E.P, 0, none⟩)), .slice (some ⟨g, o, none⟩) m c, c4, c5, c6, c7, c8, c9, c10, c11, c12, .int .u64 pos, c14, c15, c16, c17, c18, c19, c20, c21, c22, c23, c24, c25, c26, c27, c28, c29, c30, c31, c32, c33, c34, c35, c36, c37, c38, c39, c40, c41, c42, c43, c44, c45, c46, c47, c48, c49, c50, c51, c52, c53, c54, c55, c56, c57, c58, c59, c60, c61, c62, c63, c64, c65, c66, c67, c68, c69, c70, c71, c72, c73, c74, c75, c76, c77, c78, c79, c80, c81, c82, c83, c84, c85, c86, c87, c88, c89, c90, c91, c92, c93, c94, c95, c96, c97, c98, c99, c100, c101, c102, c103, c104, c105, c106, c107, c108, c109, c110, c111, c112, c113, c114, c115, c116, c117, c118, c119, c120, c121, c122, c123, c124, c125, c126, c127, c128, c129, c130, c131, c132, c133, c134, c135, c136, c137, c138, c139, c140, c141, c142, c143, c144, c145, c146, c147, c148, c149, c150, c151, c152, c153, c154, c155, c156, c157, c158, c159, c160, c161, c162, c163, c164, c165, c166, c167, c168, c169, c170, c171, c172, c173, c174, c175, c176, c177, c178, c179, c180, c181, c182, c183, c184, c185, c186, c187, c188, c189, c190, c191, c192, c193, c194, c195, c196, c197, c198, c199, c200, c201, c202, c203, c204, c205, c206, c207, c208, c209, c210, c211, c212, c213, c214, c215, c216, c217, c218, c219, c220, c221, c222, c223, c224, c225, c226, c227, c228, c229, c230, c231, c232, c233, c234, c235, c236, c237, c238, c239, c240, c241, c242, c243, c244, c245, c246, c247, c248, c249, c250, c251, c252, c253, c254, c255, c256, c257, c258, c259, c260, c261, c262, c263, c264, c265, c266, c267, c268, c269, c270, c271, c272, c273, c274, c275, c276, c277, c278, c279, c280, c281, c282, c283, c284, c285, c286, c287, c288, c289, c290, c291, c292, c293, c294, c295, c296, c297, c298, c299, c300, c301], []⟩ x := by
  have HE := Lib.hid hE
  have HB := Lib.hid hB
  have HK := Lib.hid hK
  have HR := Lib.hid hErr
  have r0 := hB.rd.c0
  rw [hr] at r0
  have HRR := Lib.hid hr
  clear hE hB hK hErr hr
  conv => arg 2; whnf
  subst h7
  go_wp2_with fail
  with_reducible refine (HB.out.getI HE.out 8 c 8 (by decide) (by decide) (by decide) hm hmc hm0).mono ?_
  rintro e x1 (⟨te, ve, rfl, h1⟩ | ⟨g', o', c', pos', a', F', rfl, h1⟩)
  · go_wp2_with fail
    refine HR.out ?_ te ve x1 h1.out.2
    unfold Fr.ext
    rw [if_neg (by decide), if_pos rfl, if_neg (by have := h1.out.1; omega)]
  · obtain ⟨b0, b1, b2, b3, b4, b5, b6, b7, l2, hl⟩ : ∃ b0 b1 b2 b3 b4 b5 b6 b7 l2, rest B (o + pos) F = b0 :: b1 :: b2 :: b3 :: b4 :: b5 :: b6 :: b7 :: l2 := by
      have h := h1.out.2.2.1
      match hh : rest B (o + pos) F with
      | [] => rw [hh] at h; simp at h
      | [_] => rw [hh] at h; simp at h
      | [_, _] => rw [hh] at h; simp at h
      | [_, _, _] => rw [hh] at h; simp at h
      | [_, _, _, _] => rw [hh] at h; simp at h
      | [_, _, _, _, _] => rw [hh] at h; simp at h
      | [_, _, _, _, _, _] => rw [hh] at h; simp at h
      | [_, _, _, _, _, _, _] => rw [hh] at h; simp at h
      | b0 :: b1 :: b2 :: b3 :: b4 :: b5 :: b6 :: b7 :: l2 => exact ⟨b0, b1, b2, b3, b4, b5, b6, b7, l2, rfl⟩
    have hk := h1.out.2.2.2.2.1
    have HC := Lib.hid (Tryd.binary_BE_Uint64 g' o' 8 c' b0 b1 b2 b3 b4 b5 b6 b7 x1 (Nat.le_refl _) (hk 0 b0 (by decide) (by rw [hl]; rfl)) (hk 1 b1 (by decide) (by rw [hl]; rfl)) (hk 2 b2 (by decide) (by rw [hl]; rfl)) (hk 3 b3 (by decide) (by rw [hl]; rfl)) (hk 4 b4 (by decide) (by rw [hl]; rfl)) (hk 5 b5 (by decide) (by rw [hl]; rfl)) (hk 6 b6 (by decide) (by rw [hl]; rfl)) (hk 7 b7 (by decide) (by rw [hl]; rfl)))
    have HL := Lib.hid hl
    have hbe := word_lt b0 b1 b2 b3 b4 b5 b6 b7
    obtain ⟨st, hst⟩ : ∃ st, Lib.beNat [b0, b1, b2, b3, b4, b5, b6, b7] = st := ⟨_, rfl⟩
    rw [hst] at HC hbe
    have HST := Lib.hid hst
    clear hl hk hst
    have HEX : Hid (Fr.ext 127 (rest B (o + pos) F) = if st < 9223372036854775808 then some (st, rest B (o + pos') F') else none) := by
      refine Lib.hid ?_
      unfold Fr.ext
      rw [if_neg (by decide), if_pos rfl, if_pos h1.out.2.2.1, h1.out.2.2.2.1, HL.out, ← HST.out]
      rfl
    go_wp2_with fail
    with_reducible refine (HC.out).mono ?_
    rintro e x2 ⟨rfl, hb2⟩
    have HB2 := Lib.hid (h1.out.2.2.2.2.2.same HE.out hb2)
    clear hb2
    have f0 := HB2.out.rd.fz 0
    have r0' := HB2.out.rd.c0
    have HB3 := Lib.hid (HB2.out.rdw HE.out ((But.refl (fun k => k = E.R) x2).setCell ⟨E.R, 0, none⟩ (.int .u64 st) rfl) (HB2.out.rd.set0 st))
    by_cases htop : st < 9223372036854775808
    · have hbit : bits .and .u64 (st : Int) 9223372036854775808 = 0 := by
        have h := u64_and_nat st 9223372036854775808 hbe (by decide)
        have h2 : st &&& 9223372036854775808 = 0 := by
          have h3 := nat_bit 63 st
          rw [show (2 : Nat) ^ 63 = 9223372036854775808 from by decide] at h3
          rw [h3]
          omega
        rw [h2] at h
        exact h
      go_wp2_with fail
      refine HK.out _ _ _ _ _ _ _ _ _ _ _ _ _ _ _ _ _ _ _ _ _ _ _ _ _ _ _ _ _ _ _ _ _ _ _ _ _ _ _ _ _ _ _ _ _ _ _ _ _ _ _ _ _ _ _ st pos' a' F' (by rw [HEX.out, if_pos htop]) h1.out.1 HB3.out
    · have hbit : bits .and .u64 (st : Int) 9223372036854775808 = 9223372036854775808 := by
        have h := u64_and_nat st 9223372036854775808 hbe (by decide)
        have h2 : st &&& 9223372036854775808 = 9223372036854775808 := by
          have h3 := nat_bit 63 st
          rw [show (2 : Nat) ^ 63 = 9223372036854775808 from by decide] at h3
          rw [h3]
          omega
        rw [h2] at h
        exact h
      go_wp2_with fail
      with_reducible refine (perr_any _ _ _).mono ?_
      rintro e x3 ⟨te, ve, rfl, hb3⟩
      have HEO := Lib.hid (HB3.out.eo' HE.out hb3)
      clear hb3
      go_wp2_with fail
      exact HR.out (by rw [HEX.out, if_neg htop]) te ve x3 HEO.out

end Go.Proofs.YtkkedekgniffoaaDoor
