/-
  wsReadLoop: the mask; a control frame.
-/
import Derived.Test.YtkkedekgniffoaaDoorEx
namespace Go.Proofs.YtkkedekgniffoaaDoor
open Go.RowKit
theorem rd_key {x : World} {R : Nat} {r : RdV} (h : RdAt x R r) (k0 k1 k2 k3 : UInt8) : RdAt (x.setRow R (r.row.toList.take 6 ++ ([bv k0, bv k1, bv k2, bv k3] ++ r.row.toList.drop (6 + [bv k0, bv k1, bv k2, bv k3].length))).toArray) R { r with key := [k0, k1, k2, k3] } := by
  unfold RdAt at *
  rw [setRow_heap x R _ _ 66 (0, 0) h]
  rfl
theorem wpList_copy_key {w : World} {ops : Array Oper} {rest : List Oper} {oo : Oper} {a : Act} {Q : Exit → Act → World → Prop} (hgd : oo.guard = none) (d s : Operand)
    (ho : oo.op = .call { callee := .builtin .copy, args := #[d, s], argTypes := #[50, 50] }) (R g' o' c' : Nat) (hd : a.eval d = .slice (some ⟨R, 6, none⟩) 4 4) (hs : a.eval s = .slice (some ⟨g', o', none⟩) 4 c')
    (r : RdV) (hr : RdAt w R r) (k0 k1 k2 k3 : UInt8) (h0 : w.cell? ⟨g', o' + 0, none⟩ = some (.int .u8 k0.toNat)) (h1 : w.cell? ⟨g', o' + 1, none⟩ = some (.int .u8 k1.toNat)) (h2 : w.cell? ⟨g', o' + 2, none⟩ = some (.int .u8 k2.toNat)) (h3 : w.cell? ⟨g', o' + 3, none⟩ = some (.int .u8 k3.toNat))
    (h : ∀ w', RdAt w' R { r with key := [k0, k1, k2, k3] } → But (fun k => k = R) w w' → wpList Tryd.prog ops Q rest (a.put oo.dst (.int .i64 4)) w') : wpList Tryd.prog ops Q (oo :: rest) a w := by
  refine wpList_copy_own hgd d s 50 50 ho 5 Tryd.underlying50 (by kernel_rfl) R 6 4 4 ⟨g', o', none⟩ 4 c' hd hs r.row 66 hr [bv k0, bv k1, bv k2, bv k3] rfl ?_ (by simp [RdV.row]) ?_ ?_
  · intro j v hj
    rw [K.addr_add _ rfl]
    match j, hj with
    | 0, hj => cases hj; exact h0
    | 1, hj => cases hj; exact h1
    | 2, hj => cases hj; exact h2
    | 3, hj => cases hj; exact h3
  · intro v hv
    simp at hv
    rcases hv with rfl | rfl | rfl | rfl <;> rfl
  · exact h _ (rd_key hr k0 k1 k2 k3) ⟨rfl, rfl, rfl, by simp, fun k _ hs => setRow_other w R k _ hs⟩
set_option maxHeartbeats 8000000 in
set_option maxRecDepth 1000000 in
theorem mask_wp (E : Nm) (hE : E.Ok) (g o m c : Nat) (x : World) (pos a : Nat) (F : List Pc) (r : RdV) (kv : Value) (nk : Nat) (B : List UInt8) (D : List Ch) (outs : List Value) (ov : Value) (hB : Bs E g o m x pos a F r kv nk B D outs ov) (hm : m ≤ 1000000) (hmc : m ≤ c) (hm0 : 0 < m)
    (c4 c5 c6 c7 c8 c9 c10 c11 c12 c14 c15 c16 c17 c18 c19 c20 c21 c22 c23 c24 c25 c26 c27 c28 c29 c30 c31 c32 c33 c34 c35 c36 c37 c38 c39 c40 c41 c42 c43 c44 c45 c46 c47 c48 c49 c50 c51 c52 c53 c54 c55 c56 c57 c58 c59 c60 c61 c62 c63 c64 c65 c66 c67 c68 c69 c70 c71 c72 c73 c74 c75 c76 c77 c78 c79 c80 c81 c82 c83 c84 c85 c86 c87 c88 c89 c90 c91 c92 c93 c94 c95 c96 c97 c98 c99 c100 c101 c102 c103 c104 c105 c106 c107 c108 c109 c110 c111 c112 c113 c114 c115 c116 c117 c118 c119 c120 c121 c122 c123 c124 c125 c126 c127 c128 c129 c130 c131 c132 c133 c134 c135 c136 c137 c138 c139 c140 c141 c142 c143 c144 c145 c146 c147 c148 c149 c150 c151 c152 c153 c154 c155 c156 c157 c158 c159 c160 c161 c162 c163 c164 c165 c166 c167 c168 c169 c170 c171 c172 c173 c174 c175 c176 c177 c178 c179 c180 c181 c182 c183 c184 c185 c186 c187 c188 c189 c190 c191 c192 c193 c194 c195 c196 c197 c198 c199 c200 c201 c202 c203 c204 c205 c206 c207 c208 c209 c210 c211 c212 c213 c214 c215 c216 c217 c218 c219 c220 c221 c222 c223 c224 c225 c226 c227 c228 c229 c230 c231 c232 c233 c234 c235 c236 c237 c238 c239 c240 c241 c242 c243 c244 c245 c246 c247 c248 c249 c250 c251 c252 c253 c254 c255 c256 c257 c258 c259 c260 c261 c262 c263 c264 c265 c266 c267 c268 c269 c270 c271 c272 c273 c274 c275 c276 c277 c278 c279 c280 c281 c282 c283 c284 c285 c286 c287 c288 c289 c290 c291 c292 c293 c294 c295 c296 c297 c298 c299 c300 c301 : Value) (K K1 K2 K3 : Act → World → Prop) (Post : Ending → World → Prop)
    (hErr : (rest B (o + pos) F).length < 4 → ∀ te ve x', Eo E x' kv 0 D outs ov → Post (.returned (.iface te ve)) x')
    (hK : ∀ (v10 v11 v12 v192 v193 v194 v195 v196 v197 v198 v199 v200 v201 v202 v203 v204 v205 v206 v207 v208 v209 v210 v211 v212 v213 v214 v215 : Value) (x' : World) (pos2 a2 : Nat) (F2 : List Pc), 4 ≤ (rest B (o + pos) F).length → rest B (o + pos2) F2 = (rest B (o + pos) F).drop 4 → Bs E g o m x' pos2 a2 F2 { r with key := (rest B (o + pos) F).take 4, kp := 0 } kv nk B D outs ov → K ⟨#[.pointer (some ⟨E.C, 0, none⟩), .pointer (some ⟨E.R, 0, none⟩), .iface 67 (.pointer (some ⟨E.P, 0, none⟩)), .slice (some ⟨g, o, none⟩) m c, c4, c5, c6, c7, c8, c9, v10, v11, v12, .int .u64 pos2, c14, c15, c16, c17, c18, c19, c20, c21, c22, c23, c24, c25, c26, c27, c28, c29, c30, c31, c32, c33, c34, c35, c36, c37, c38, c39, c40, c41, c42, c43, c44, c45, c46, c47, c48, c49, c50, c51, c52, c53, c54, c55, c56, c57, c58, c59, c60, c61, c62, c63, c64, c65, c66, c67, c68, c69, c70, c71, c72, c73, c74, c75, c76, c77, c78, c79, c80, c81, c82, c83, c84, c85, c86, c87, c88, c89, c90, c91, c92, c93, c94, c95, c96, c97, c98, c99, c100, c101, c102, c103, c104, c105, c106, c107, c108, c109, c110, c111, c112, c113, c114, c115, c116, c117, c118, c119, c120, c121, c122, c123, c124, c125, c126, c127, c128, c129, c130, c131, c132, c133, c134, c135, c136, c137, c138, c139, c140, c141, c142, c143, c144, c145, c146, c147, c148, c149, c150, c151, c152, c153, c154, c155, c156, c157, c158, c159, c160, c161, c162, c163, c164, c165, c166, c167, c168, c169, c170, c171, c172, c173, c174, c175, c176, c177, c178, c179, c180, c181, c182, c183, c184, c185, c186, c187, c188, c189, c190, c191, v192, v193, v194, v195, v196, v197, v198, v199, v200, v201, v202, v203, v204, v205, v206, v207, v208, v209, v210, v211, v212, v213, v214, v215, c216, c217, c218, c219, c220, c221, c222, c223, c224, c225, c226, c227, c228, c229, c230, c231, c232, c233, c234, c235, c236, c237, c238, c239, c240, c241, c242, c243, c244, c245, c246, c247, c248, c249, c250, c251, c252, c253, c254, c255, c256, c257, c258, c259, c260, c261, c262, c263, c264, c265, c266, c267, c268, c269, c270, c271, c272, c273, c274, c275, c276, c277, c278, c279, c280, c281, c282, c283, c284, c285, c286, c287, c288, c289, c290, c291, c292, c293, c294, c295, c296, c297, c298, c299, c300, c301], []⟩ x') :
    Code.wp Tryd.prog maskC (Exit.then K (Exit.then K1 (Exit.inBlock 1 (Exit.then K2 (Exit.inBlock 0 (Exit.then K3 (bodyPost Tryd.prog Tryd.f21 Post))))))) ⟨#[.pointer (some ⟨E.C, 0, none⟩), .pointer (some ⟨E.R, 0, none⟩), .iface 67 (.pointer (some ⟨E.P, 0, none⟩)), .slice (some ⟨g, o, none⟩) m c, c4, c5, c6, c7, c8, c9, c10, c11, c12, .int .u64 pos, c14, c15, c16, c17, c18, c19, c20, c21, c22, c23, c24, c25, c26, c27, c28, c29, c30, c31, c32, c33, c34, c35, c36, c37, c38, c39, c40, c41, c42, c43, c44, c45, c46, c47, c48, c49, c50, c51, c52, c53, c54, c55, c56, c57, c58, c59, c60, c61, c62, c63, c64, c65, c66, c67, c68, c69, c70, c71, c72, c73, c74, c75, c76, c77, c78, c79, c80, c81, c82, c83, c84, c85, c86, c87, c88, c89, c90, c91, c92, c93, c94, c95, c96, c97, c98, c99, c100, c101, c102, c103, c104, c105, c106, c107, c108, c109, c110, c111, c112, c113, c114, c115, c116, c117, c118, c119, c120, c121, c122, c123, c124, c125, c126, c127, c128, c129, c130, c131, c132, c133, c134, c135, c136, c137, c138, c139, c140, c141, c142, c143, c144, c145, c146, c147, c148, c149, c150, c151, c152, c153, c154, c155, c156, c157, c158, c159, c160, c161, c162, c163, c164, c165, c166, c167, c168, c169, c170, c171, c172, c173, c174, c175, c176, c177, c178, c179, c180, c181, c182, c183, c184, c185, c186, c187, c188, c189, c190, c191, c192, c193, c194, c195, c196, c197, c198, c199, c200, c201, c202, c203, c204, c205, c206, c207, c208, c209, c210, c211, c212, c213, c214, c215, c216, c217, c218, c219, c220, c221, c222, c223, c224, c225, c226, c227, c228, c229, c230, c231, c232, c233, c234, c235, c236, c237, c238, c239, c240, c241, c242, c243, c244, c245, c246, c247, c248, c249, c250, c251, c252, c253, c254, c255, c256, c257, c258, c259, c260, c261, c262, c263, c264, c265, c266, c267, c268, c269, c270, c271, c272, c273, c274, c275, c276, c277, c278, c279, c280, c281, c282, c283, c284, c285, c286, c287, c288, c289, c290, c291, c292, c293, c294, c295, c296, c297, c298, c299, c300, c301], []⟩ x := by
  have HE := Lib.hid hE
  have HB := Lib.hid hB
  have HK := Lib.hid hK
  have HR := Lib.hid hErr
  have r4 := hB.rd.c4
  clear hE hB hK hErr
  conv => arg 2; whnf
  go_wp2_with fail
  with_reducible refine (HB.out.getI HE.out 4 c 4 (by decide) (by decide) (by decide) hm hmc hm0).mono ?_
  rintro e x1 (⟨te, ve, rfl, h1⟩ | ⟨g', o', c', pos', a', F', rfl, h1⟩)
  · go_wp2_with fail
    exact HR.out h1.out.1 te ve x1 h1.out.2
  · obtain ⟨b0, b1, b2, b3, l2, hl⟩ : ∃ b0 b1 b2 b3 l2, rest B (o + pos) F = b0 :: b1 :: b2 :: b3 :: l2 := by
      have h := h1.out.2.2.1
      match hh : rest B (o + pos) F with
      | [] => rw [hh] at h; simp at h
      | [_] => rw [hh] at h; simp at h
      | [_, _] => rw [hh] at h; simp at h
      | [_, _, _] => rw [hh] at h; simp at h
      | b0 :: b1 :: b2 :: b3 :: l2 => exact ⟨b0, b1, b2, b3, l2, rfl⟩
    have hk := h1.out.2.2.2.2.1
    have k0 := hk 0 b0 (by decide) (by rw [hl]; rfl)
    have k1 := hk 1 b1 (by decide) (by rw [hl]; rfl)
    have k2 := hk 2 b2 (by decide) (by rw [hl]; rfl)
    have k3 := hk 3 b3 (by decide) (by rw [hl]; rfl)
    have HKK := Lib.hid (And.intro k0 (And.intro k1 (And.intro k2 k3)))
    have HL := Lib.hid hl
    clear hl hk k0 k1 k2 k3
    go_wp2_with (refine wpList_copy_key rfl (.tmp 210) (.tmp 211) rfl E.R g' o' c' rfl rfl r h1.out.2.2.2.2.2.rd b0 b1 b2 b3 HKK.out.1 HKK.out.2.1 HKK.out.2.2.1 HKK.out.2.2.2 ?_; intro x2 hr2 hb2; have f5 := hr2.fz 5; have c5 := hr2.c5; have H2 := Lib.hid (And.intro hr2 hb2); clear hr2 hb2)
    have hkey : (rest B (o + pos) F).take 4 = [b0, b1, b2, b3] := by rw [HL.out]; rfl
    refine HK.out _ _ _ _ _ _ _ _ _ _ _ _ _ _ _ _ _ _ _ _ _ _ _ _ _ _ _ _ pos' a' F' h1.out.2.2.1 h1.out.2.2.2.1 ?_
    rw [hkey]
    exact (h1.out.2.2.2.2.2.rdw HE.out (H2.out.2.setCell ⟨E.R, 5, none⟩ (.int .u8 0) rfl) (by have h := H2.out.1.set5 0; exact h))

set_option maxHeartbeats 8000000 in
set_option maxRecDepth 1000000 in
theorem ctl_wp (E : Nm) (hE : E.Ok) (g o m c : Nat) (x : World) (pos a : Nat) (F : List Pc) (r : RdV) (kv : Value) (nk : Nat) (B : List UInt8) (D : List Ch) (outs : List Value) (ov : Value) (hB : Bs E g o m x pos a F r kv nk B D outs ov) (hm : m ≤ 1000000) (hmc : m ≤ c) (hm0 : 0 < m) (op : Nat) (hop : op < 8 ∨ op = 8 ∨ op = 9 ∨ op = 10) (hrm : 8 ≤ op → r.rem ≤ 125) (hkp : r.kp = 0) (hnk : nk ≤ 1000000)
    (c4 c5 c6 c7 c8 c9 c10 c11 c12 c14 c15 c17 c18 c19 c20 c21 c22 c23 c24 c25 c26 c27 c28 c29 c30 c31 c32 c33 c34 c35 c36 c37 c38 c39 c40 c41 c42 c43 c44 c45 c46 c47 c48 c49 c50 c51 c52 c53 c54 c55 c56 c57 c58 c59 c60 c61 c62 c63 c64 c65 c66 c67 c68 c69 c70 c71 c72 c73 c74 c75 c76 c77 c78 c79 c80 c81 c82 c83 c84 c85 c86 c87 c88 c89 c90 c91 c92 c93 c94 c95 c96 c97 c98 c99 c100 c101 c102 c103 c104 c105 c106 c107 c108 c109 c110 c111 c112 c113 c114 c115 c116 c117 c118 c119 c120 c121 c122 c123 c124 c125 c126 c127 c128 c129 c130 c131 c132 c133 c134 c135 c136 c137 c138 c139 c140 c141 c142 c143 c144 c145 c146 c147 c148 c149 c150 c151 c152 c153 c154 c155 c156 c157 c158 c159 c160 c161 c162 c163 c164 c165 c166 c167 c168 c169 c170 c171 c172 c173 c174 c175 c176 c177 c178 c179 c180 c181 c182 c183 c184 c185 c186 c187 c188 c189 c190 c191 c192 c193 c194 c195 c196 c197 c198 c199 c200 c201 c202 c203 c204 c205 c206 c207 c208 c209 c210 c211 c212 c213 c214 c215 c216 c217 c218 c219 c220 c221 c222 c223 c224 c225 c226 c227 c228 c229 c230 c231 c232 c233 c234 c235 c236 c237 c238 c239 c240 c241 c242 c243 c244 c245 c246 c247 c248 c249 c250 c251 c252 c253 c254 c255 c256 c257 c258 c259 c260 c261 c262 c263 c264 c265 c266 c267 c268 c269 c270 c271 c272 c273 c274 c275 c276 c277 c278 c279 c280 c281 c282 c283 c284 c285 c286 c287 c288 c289 c290 c291 c292 c293 c294 c295 c296 c297 c298 c299 c300 c301 : Value) (K K1 K2 K3 : Act → World → Prop) (Post : Ending → World → Prop)
    (hErr : 8 ≤ op → ∀ te ve x' kv' cl, CtlEnd op r.rem r.key (rest B (o + pos) F) 0 cl → Eo E x' kv' cl D outs ov → Post (.returned (.iface te ve)) x')
    (hJ : 8 ≤ op → op ≠ 8 → ∀ (v10 v216 v217 v218 v219 v220 v221 v222 v223 v224 v225 v226 v227 v228 v229 v230 : Value) (x' : World) (pos2 a2 nk' : Nat) (F2 : List Pc) (kv' : Value) (B2 : List UInt8), r.rem ≤ (rest B (o + pos) F).length → rest B2 (o + pos2) F2 = (rest B (o + pos) F).drop r.rem →
      Bs E g o m x' pos2 a2 F2 { r with rem := 0, kp := r.rem % 4 } kv' nk' B2 D outs ov → nk' ≤ nk + 1 → K2 ⟨#[.pointer (some ⟨E.C, 0, none⟩), .pointer (some ⟨E.R, 0, none⟩), .iface 67 (.pointer (some ⟨E.P, 0, none⟩)), .slice (some ⟨g, o, none⟩) m c, c4, c5, c6, c7, c8, c9, v10, c11, .nilIface, .int .u64 pos2, c14, c15, .int .i64 op, c17, c18, c19, c20, c21, c22, c23, c24, c25, c26, c27, c28, c29, c30, c31, c32, c33, c34, c35, c36, c37, c38, c39, c40, c41, c42, c43, c44, c45, c46, c47, c48, c49, c50, c51, c52, c53, c54, c55, c56, c57, c58, c59, c60, c61, c62, c63, c64, c65, c66, c67, c68, c69, c70, c71, c72, c73, c74, c75, c76, c77, c78, c79, c80, c81, c82, c83, c84, c85, c86, c87, c88, c89, c90, c91, c92, c93, c94, c95, c96, c97, c98, c99, c100, c101, c102, c103, c104, c105, c106, c107, c108, c109, c110, c111, c112, c113, c114, c115, c116, c117, c118, c119, c120, c121, c122, c123, c124, c125, c126, c127, c128, c129, c130, c131, c132, c133, c134, c135, c136, c137, c138, c139, c140, c141, c142, c143, c144, c145, c146, c147, c148, c149, c150, c151, c152, c153, c154, c155, c156, c157, c158, c159, c160, c161, c162, c163, c164, c165, c166, c167, c168, c169, c170, c171, c172, c173, c174, c175, c176, c177, c178, c179, c180, c181, c182, c183, c184, c185, c186, c187, c188, c189, c190, c191, c192, c193, c194, c195, c196, c197, c198, c199, c200, c201, c202, c203, c204, c205, c206, c207, c208, c209, c210, c211, c212, c213, c214, c215, v216, v217, v218, v219, v220, v221, v222, v223, v224, v225, v226, v227, v228, v229, v230, c231, c232, c233, c234, c235, c236, c237, c238, c239, c240, c241, c242, c243, c244, c245, c246, c247, c248, c249, c250, c251, c252, c253, c254, c255, c256, c257, c258, c259, c260, c261, c262, c263, c264, c265, c266, c267, c268, c269, c270, c271, c272, c273, c274, c275, c276, c277, c278, c279, c280, c281, c282, c283, c284, c285, c286, c287, c288, c289, c290, c291, c292, c293, c294, c295, c296, c297, c298, c299, c300, c301], []⟩ x')
    (hK : op < 8 → ∀ (v10 v216 v217 v218 v219 v220 v221 v222 v223 v224 v225 v226 v227 v228 v229 v230 : Value), K ⟨#[.pointer (some ⟨E.C, 0, none⟩), .pointer (some ⟨E.R, 0, none⟩), .iface 67 (.pointer (some ⟨E.P, 0, none⟩)), .slice (some ⟨g, o, none⟩) m c, c4, c5, c6, c7, c8, c9, v10, c11, c12, .int .u64 pos, c14, c15, .int .i64 op, c17, c18, c19, c20, c21, c22, c23, c24, c25, c26, c27, c28, c29, c30, c31, c32, c33, c34, c35, c36, c37, c38, c39, c40, c41, c42, c43, c44, c45, c46, c47, c48, c49, c50, c51, c52, c53, c54, c55, c56, c57, c58, c59, c60, c61, c62, c63, c64, c65, c66, c67, c68, c69, c70, c71, c72, c73, c74, c75, c76, c77, c78, c79, c80, c81, c82, c83, c84, c85, c86, c87, c88, c89, c90, c91, c92, c93, c94, c95, c96, c97, c98, c99, c100, c101, c102, c103, c104, c105, c106, c107, c108, c109, c110, c111, c112, c113, c114, c115, c116, c117, c118, c119, c120, c121, c122, c123, c124, c125, c126, c127, c128, c129, c130, c131, c132, c133, c134, c135, c136, c137, c138, c139, c140, c141, c142, c143, c144, c145, c146, c147, c148, c149, c150, c151, c152, c153, c154, c155, c156, c157, c158, c159, c160, c161, c162, c163, c164, c165, c166, c167, c168, c169, c170, c171, c172, c173, c174, c175, c176, c177, c178, c179, c180, c181, c182, c183, c184, c185, c186, c187, c188, c189, c190, c191, c192, c193, c194, c195, c196, c197, c198, c199, c200, c201, c202, c203, c204, c205, c206, c207, c208, c209, c210, c211, c212, c213, c214, c215, v216, v217, v218, v219, v220, v221, v222, v223, v224, v225, v226, v227, v228, v229, v230, c231, c232, c233, c234, c235, c236, c237, c238, c239, c240, c241, c242, c243, c244, c245, c246, c247, c248, c249, c250, c251, c252, c253, c254, c255, c256, c257, c258, c259, c260, c261, c262, c263, c264, c265, c266, c267, c268, c269, c270, c271, c272, c273, c274, c275, c276, c277, c278, c279, c280, c281, c282, c283, c284, c285, c286, c287, c288, c289, c290, c291, c292, c293, c294, c295, c296, c297, c298, c299, c300, c301], []⟩ x) :
    Code.wp Tryd.prog ctlC (Exit.then K (Exit.then K1 (Exit.inBlock 1 (Exit.then K2 (Exit.inBlock 0 (Exit.then K3 (bodyPost Tryd.prog Tryd.f21 Post))))))) ⟨#[.pointer (some ⟨E.C, 0, none⟩), .pointer (some ⟨E.R, 0, none⟩), .iface 67 (.pointer (some ⟨E.P, 0, none⟩)), .slice (some ⟨g, o, none⟩) m c, c4, c5, c6, c7, c8, c9, c10, c11, c12, .int .u64 pos, c14, c15, .int .i64 op, c17, c18, c19, c20, c21, c22, c23, c24, c25, c26, c27, c28, c29, c30, c31, c32, c33, c34, c35, c36, c37, c38, c39, c40, c41, c42, c43, c44, c45, c46, c47, c48, c49, c50, c51, c52, c53, c54, c55, c56, c57, c58, c59, c60, c61, c62, c63, c64, c65, c66, c67, c68, c69, c70, c71, c72, c73, c74, c75, c76, c77, c78, c79, c80, c81, c82, c83, c84, c85, c86, c87, c88, c89, c90, c91, c92, c93, c94, c95, c96, c97, c98, c99, c100, c101, c102, c103, c104, c105, c106, c107, c108, c109, c110, c111, c112, c113, c114, c115, c116, c117, c118, c119, c120, c121, c122, c123, c124, c125, c126, c127, c128, c129, c130, c131, c132, c133, c134, c135, c136, c137, c138, c139, c140, c141, c142, c143, c144, c145, c146, c147, c148, c149, c150, c151, c152, c153, c154, c155, c156, c157, c158, c159, c160, c161, c162, c163, c164, c165, c166, c167, c168, c169, c170, c171, c172, c173, c174, c175, c176, c177, c178, c179, c180, c181, c182, c183, c184, c185, c186, c187, c188, c189, c190, c191, c192, c193, c194, c195, c196, c197, c198, c199, c200, c201, c202, c203, c204, c205, c206, c207, c208, c209, c210, c211, c212, c213, c214, c215, c216, c217, c218, c219, c220, c221, c222, c223, c224, c225, c226, c227, c228, c229, c230, c231, c232, c233, c234, c235, c236, c237, c238, c239, c240, c241, c242, c243, c244, c245, c246, c247, c248, c249, c250, c251, c252, c253, c254, c255, c256, c257, c258, c259, c260, c261, c262, c263, c264, c265, c266, c267, c268, c269, c270, c271, c272, c273, c274, c275, c276, c277, c278, c279, c280, c281, c282, c283, c284, c285, c286, c287, c288, c289, c290, c291, c292, c293, c294, c295, c296, c297, c298, c299, c300, c301], []⟩ x := by
  have HE := Lib.hid hE
  have HB := Lib.hid hB
  have HK := Lib.hid hK
  have HJ := Lib.hid hJ
  have HR := Lib.hid hErr
  have HM := Lib.hid hrm
  clear hE hB hK hJ hErr hrm
  conv => arg 2; whnf
  go_wp2_with fail
  with_reducible refine (isctl_any op x).mono ?_
  rintro e x1 ⟨rfl, hx1⟩
  obtain rfl := hx1.symm
  by_cases h8 : 8 ≤ op
  · have hd : decide (8 ≤ op) = true := decide_eq_true h8
    obtain ⟨te, ve, he⟩ := HE.out.e
    have hct := Lib.hid (ctl_any E.W0 E.B1 E.C E.R E.P E.L E.np E.cp a g o m c pos op nk 0 kv B F r x (HB.out.pre HE.out hkp) (by omega) (HM.out h8) hnk hm hmc HB.out.pl hm0 HE.out.n HE.out.c he)
    clear he
    go_wp2_with fail
    with_reducible refine (hct.out).mono ?_
    rintro e x2 ⟨pos', ev, B2, rfl, hl2, hB2, he2, hb2, (⟨te2, ve2, cl', kv', rfl, hca, hce⟩ | ⟨rfl, ho8, a', i, nk', F', kv', hp1, hp2, hrl, hrs, hrd, hcn, hF, hca, hko, hnk2⟩)⟩
    · have HEO := Lib.hid (And.intro hce (HB.out.ctlE HE.out hb2 hB2 he2 hca))
      clear hl2 hB2 he2 hb2 hca hce
      go_wp2_with fail
      exact HR.out h8 te2 ve2 x2 kv' cl' HEO.out.1 HEO.out.2
    · have HEO := Lib.hid (And.intro hrl (And.intro hrs (And.intro hnk2 (HB.out.ctl HE.out hb2 hB2 hl2 he2 hca hko hrd hcn hF hp1 hp2))))
      clear hl2 hB2 he2 hb2 hca hrl hrs hrd hcn hF hko hnk2 hp1 hp2
      go_wp2_with fail
      exact HJ.out h8 ho8 _ _ _ _ _ _ _ _ _ _ _ _ _ _ _ _ x2 pos' a' nk' F' kv' B2 HEO.out.1 HEO.out.2.1 HEO.out.2.2.2 HEO.out.2.2.1
  · have hd : decide (8 ≤ op) = false := decide_eq_false h8
    go_wp2_with fail
    exact HK.out (by omega) _ _ _ _ _ _ _ _ _ _ _ _ _ _ _ _
end Go.Proofs.YtkkedekgniffoaaDoor
