/-
  wsReadLoop: a frame's first two bytes.
-/
import Derived.Test.YtkkedekgniffoaaDoorSw
namespace Go.Proofs.YtkkedekgniffoaaDoor
open Go.RowKit
set_option maxHeartbeats 8000000 in
set_option maxRecDepth 1000000 in
theorem front_wp (E : Nm) (hE : E.Ok) (g o m c : Nat) (x : World) (pos a : Nat) (F : List Pc) (r : RdV) (kv : Value) (nk : Nat) (B : List UInt8) (D : List Ch) (outs : List Value) (ov : Value) (hB : Bs E g o m x pos a F r kv nk B D outs ov) (hm : m ≤ 1000000) (hmc : m ≤ c) (hm0 : 0 < m) (hlt : pos < m)
    (c4 c5 c6 c7 c8 c9 c10 c11 c12 c14 c15 c16 c17 c18 c19 c20 c21 c22 c23 c24 c25 c26 c27 c28 c29 c30 c31 c32 c33 c34 c35 c36 c37 c38 c39 c40 c41 c42 c43 c44 c45 c46 c47 c48 c49 c50 c51 c52 c53 c54 c55 c56 c57 c58 c59 c60 c61 c62 c63 c64 c65 c66 c67 c68 c69 c70 c71 c72 c73 c74 c75 c76 c77 c78 c79 c80 c81 c82 c83 c84 c85 c86 c87 c88 c89 c90 c91 c92 c93 c94 c95 c96 c97 c98 c99 c100 c101 c102 c103 c104 c105 c106 c107 c108 c109 c110 c111 c112 c113 c114 c115 c116 c117 c118 c119 c120 c121 c122 c123 c124 c125 c126 c127 c128 c129 c130 c131 c132 c133 c134 c135 c136 c137 c138 c139 c140 c141 c142 c143 c144 c145 c146 c147 c148 c149 c150 c151 c152 c153 c154 c155 c156 c157 c158 c159 c160 c161 c162 c163 c164 c165 c166 c167 c168 c169 c170 c171 c172 c173 c174 c175 c176 c177 c178 c179 c180 c181 c182 c183 c184 c185 c186 c187 c188 c189 c190 c191 c192 c193 c194 c195 c196 c197 c198 c199 c200 c201 c202 c203 c204 c205 c206 c207 c208 c209 c210 c211 c212 c213 c214 c215 c216 c217 c218 c219 c220 c221 c222 c223 c224 c225 c226 c227 c228 c229 c230 c231 c232 c233 c234 c235 c236 c237 c238 c239 c240 c241 c242 c243 c244 c245 c246 c247 c248 c249 c250 c251 c252 c253 c254 c255 c256 c257 c258 c259 c260 c261 c262 c263 c264 c265 c266 c267 c268 c269 c270 c271 c272 c273 c274 c275 c276 c277 c278 c279 c280 c281 c282 c283 c284 c285 c286 c287 c288 c289 c290 c291 c292 c293 c294 c295 c296 c297 c298 c299 c300 c301 : Value) (K1 K2 K3 : Act → World → Prop) (Post : Ending → World → Prop)
    (hErr : ((rest B (o + pos) F).length < 2 ∨ ((rest B (o + pos) F).getD 0 0).toNat / 16 % 8 ≠ 0 ∨ ((rest B (o + pos) F).getD 1 0).toNat < 128) → ∀ te ve x', Eo E x' kv 0 D outs ov → Post (.returned (.iface te ve)) x')
    (hK : ∀ (b0 b1 : UInt8) (v10 v11 v12 v15 v19 v33 v34 v35 v36 v37 v38 v39 v40 v41 v42 v43 v44 v45 v46 v47 v48 v49 v50 v51 v52 v53 v54 v55 v56 v57 v58 v59 v60 v61 v62 v63 v64 v65 v66 v67 v68 v69 v70 v71 v72 v73 v74 v75 v76 v77 v78 v79 v80 v81 v82 v83 v84 v85 v86 : Value) (x' : World) (pos2 a2 : Nat) (F2 : List Pc), 2 ≤ (rest B (o + pos) F).length → (rest B (o + pos) F).getD 0 0 = b0 → (rest B (o + pos) F).getD 1 0 = b1 → b0.toNat / 16 % 8 = 0 → 128 ≤ b1.toNat →
      rest B (o + pos2) F2 = (rest B (o + pos) F).drop 2 → Bs E g o m x' pos2 a2 F2 { r with rem := b1.toNat % 128 } kv nk B D outs ov → Code.wp Tryd.prog fromSw (Exit.then K1 (Exit.inBlock 1 (Exit.then K2 (Exit.inBlock 0 (Exit.then K3 (bodyPost Tryd.prog Tryd.f21 Post)))))) ⟨#[.pointer (some ⟨E.C, 0, none⟩), .pointer (some ⟨E.R, 0, none⟩), .iface 67 (.pointer (some ⟨E.P, 0, none⟩)), .slice (some ⟨g, o, none⟩) m c, c4, c5, c6, c7, c8, c9, v10, v11, v12, .int .u64 pos2, c14, v15, .int .i64 (b0.toNat % 16 : Nat), .bool (decide (128 ≤ b0.toNat)), .bool false, v19, c20, c21, c22, c23, c24, c25, c26, c27, c28, c29, c30, c31, c32, v33, v34, v35, v36, v37, v38, v39, v40, v41, v42, v43, v44, v45, v46, v47, v48, v49, v50, v51, v52, v53, v54, v55, v56, v57, v58, v59, v60, v61, v62, v63, v64, v65, v66, v67, v68, v69, v70, v71, v72, v73, v74, v75, v76, v77, v78, v79, v80, v81, v82, v83, v84, v85, v86, c87, c88, c89, c90, c91, c92, c93, c94, c95, c96, c97, c98, c99, c100, c101, c102, c103, c104, c105, c106, c107, c108, c109, c110, c111, c112, c113, c114, c115, c116, c117, c118, c119, c120, c121, c122, c123, c124, c125, c126, c127, c128, c129, c130, c131, c132, c133, c134, c135, c136, c137, c138, c139, c140, c141, c142, c143, c144, c145, c146, c147, c148, c149, c150, c151, c152, c153, c154, c155, c156, c157, c158, c159, c160, c161, c162, c163, c164, c165, c166, c167, c168, c169, c170, c171, c172, c173, c174, c175, c176, c177, c178, c179, c180, c181, c182, c183, c184, c185, c186, c187, c188, c189, c190, c191, c192, c193, c194, c195, c196, c197, c198, c199, c200, c201, c202, c203, c204, c205, c206, c207, c208, c209, c210, c211, c212, c213, c214, c215, c216, c217, c218, c219, c220, c221, c222, c223, c224, c225, c226, c227, c228, c229, c230, c231, c232, c233, c234, c235, c236, c237, c238, c239, c240, c241, c242, c243, c244, c245, c246, c247, c248, c249, c250, c251, c252, c253, c254, c255, c256, c257, c258, c259, c260, c261, c262, c263, c264, c265, c266, c267, c268, c269, c270, c271, c272, c273, c274, c275, c276, c277, c278, c279, c280, c281, c282, c283, c284, c285, c286, c287, c288, c289, c290, c291, c292, c293, c294, c295, c296, c297, c298, c299, c300, c301], []⟩ x') :
    Code.wp Tryd.prog hdrB (Exit.then K1 (Exit.inBlock 1 (Exit.then K2 (Exit.inBlock 0 (Exit.then K3 (bodyPost Tryd.prog Tryd.f21 Post)))))) ⟨#[.pointer (some ⟨E.C, 0, none⟩), .pointer (some ⟨E.R, 0, none⟩), .iface 67 (.pointer (some ⟨E.P, 0, none⟩)), .slice (some ⟨g, o, none⟩) m c, c4, c5, c6, c7, c8, c9, c10, c11, c12, .int .u64 pos, c14, c15, c16, c17, c18, c19, c20, c21, c22, c23, c24, c25, c26, c27, c28, c29, c30, c31, c32, c33, c34, c35, c36, c37, c38, c39, c40, c41, c42, c43, c44, c45, c46, c47, c48, c49, c50, c51, c52, c53, c54, c55, c56, c57, c58, c59, c60, c61, c62, c63, c64, c65, c66, c67, c68, c69, c70, c71, c72, c73, c74, c75, c76, c77, c78, c79, c80, c81, c82, c83, c84, c85, c86, c87, c88, c89, c90, c91, c92, c93, c94, c95, c96, c97, c98, c99, c100, c101, c102, c103, c104, c105, c106, c107, c108, c109, c110, c111, c112, c113, c114, c115, c116, c117, c118, c119, c120, c121, c122, c123, c124, c125, c126, c127, c128, c129, c130, c131, c132, c133, c134, c135, c136, c137, c138, c139, c140, c141, c142, c143, c144, c145, c146, c147, c148, c149, c150, c151, c152, c153, c154, c155, c156, c157, c158, c159, c160, c161, c162, c163, c164, c165, c166, c167, c168, c169, c170, c171, c172, c173, c174, c175, c176, c177, c178, c179, c180, c181, c182, c183, c184, c185, c186, c187, c188, c189, c190, c191, c192, c193, c194, c195, c196, c197, c198, c199, c200, c201, c202, c203, c204, c205, c206, c207, c208, c209, c210, c211, c212, c213, c214, c215, c216, c217, c218, c219, c220, c221, c222, c223, c224, c225, c226, c227, c228, c229, c230, c231, c232, c233, c234, c235, c236, c237, c238, c239, c240, c241, c242, c243, c244, c245, c246, c247, c248, c249, c250, c251, c252, c253, c254, c255, c256, c257, c258, c259, c260, c261, c262, c263, c264, c265, c266, c267, c268, c269, c270, c271, c272, c273, c274, c275, c276, c277, c278, c279, c280, c281, c282, c283, c284, c285, c286, c287, c288, c289, c290, c291, c292, c293, c294, c295, c296, c297, c298, c299, c300, c301], []⟩ x := by
  have HE := Lib.hid hE
  have HB := Lib.hid hB
  have HK := Lib.hid hK
  have HR := Lib.hid hErr
  have hom := hB.om
  have hbl : o + pos < B.length := by omega
  obtain ⟨b0, hb0⟩ : ∃ b0, B[o + pos] = b0 := ⟨_, rfl⟩
  have c0 := hB.b.cell (j := o + pos) (c := b0) (by rw [← hb0]; exact List.getElem?_eq_getElem _)
  have hrest : rest B (o + pos) F = b0 :: rest B (o + (pos + 1)) F := by
    unfold rest
    rw [List.drop_eq_getElem_cons hbl, hb0, List.cons_append, Nat.add_assoc]
  have HRS := Lib.hid hrest
  have i0 : (0 : Int) ≤ (pos : Int) := by omega
  have i1 : (pos : Int) < (m : Int) := by omega
  have h256 := b0.toNat_lt
  obtain ⟨t1, t2, t3, t4, t5⟩ := bits_b0 b0.toNat h256
  have HB1 := Lib.hid (show Bs E g o m x (pos + 1) a F r kv nk B D outs ov from hB.mv (i := 0) hE (But.refl _ _) hB.rd hB.cn rfl (by omega) (by omega))
  have r4 := hB.rd.c4
  obtain ⟨op, hop⟩ : ∃ op, op = b0.toNat % 16 := ⟨_, rfl⟩
  rw [← hop] at t1
  have HOP := Lib.hid hop
  have hwop : wrap64 (op : Int) = (op : Int) := IntWalk.wrap64_in _ (by omega)
  clear hop
  clear hE hB hK hErr hb0 hbl hrest hom t5
  have hw1 : IntKind.u64.wrap ((pos : Int) + 1) = (pos : Int) + 1 := IntWalk.u64_in _ (by omega)
  have HGT := Lib.hid (show Calls Tryd.prog 24 #[.iface 67 (.pointer (some ⟨E.P, 0, none⟩)), .slice (some ⟨g, o, none⟩) m c, .int .u64 ((pos : Int) + 1), .int .u64 1] x (GetB E g o m 1 (pos + 1) F r kv nk B D outs ov) from HB1.out.getI HE.out 1 c 1 (by decide) (by decide) (by decide) hm hmc hm0)
  conv => arg 2; whnf
  by_cases h48 : b0.toNat / 16 % 4 = 0
  · rw [h48] at t4
    by_cases h64 : b0.toNat / 64 % 2 = 0
    · rw [h64] at t3
      have hrsv : b0.toNat / 16 % 8 = 0 := by omega
      obtain ⟨t2', ht2⟩ : ∃ z : Nat, z = b0.toNat / 128 * 128 ∧ ((z = 0 ∧ ¬ 128 ≤ b0.toNat) ∨ (z = 128 ∧ 128 ≤ b0.toNat)) := ⟨_, rfl, by omega⟩
      rw [← ht2.1] at t2
      have HT2 := Lib.hid ht2.2
      clear ht2
      have hK2 : Hid (∀ (v10 v11 v12 v15 v19 v33 v34 v35 v36 v37 v38 v39 v40 v41 v42 v43 v44 v45 v46 v47 v48 v49 v50 v51 v52 v53 v54 v55 v56 v57 v58 v59 v60 v61 v62 v63 v64 v65 v66 v67 v68 v69 v70 v71 v72 v73 v74 v75 v76 v77 v78 v79 v80 v81 v82 v83 v84 v85 v86 : Value) (b1 : UInt8) (x' : World) (pos2 a2 : Nat) (F2 : List Pc) (fi : Bool) (op : Nat), op = b0.toNat % 16 → fi = decide (128 ≤ b0.toNat) → 1 ≤ (rest B (o + (pos + 1)) F).length → (rest B (o + (pos + 1)) F).getD 0 0 = b1 → 128 ≤ b1.toNat →
          rest B (o + pos2) F2 = (rest B (o + (pos + 1)) F).drop 1 → Bs E g o m x' pos2 a2 F2 { r with rem := b1.toNat % 128 } kv nk B D outs ov → Code.wp Tryd.prog fromSw (Exit.then K1 (Exit.inBlock 1 (Exit.then K2 (Exit.inBlock 0 (Exit.then K3 (bodyPost Tryd.prog Tryd.f21 Post)))))) ⟨#[.pointer (some ⟨E.C, 0, none⟩), .pointer (some ⟨E.R, 0, none⟩), .iface 67 (.pointer (some ⟨E.P, 0, none⟩)), .slice (some ⟨g, o, none⟩) m c, c4, c5, c6, c7, c8, c9, v10, v11, v12, .int .u64 pos2, c14, v15, .int .i64 op, .bool fi, .bool false, v19, c20, c21, c22, c23, c24, c25, c26, c27, c28, c29, c30, c31, c32, v33, v34, v35, v36, v37, v38, v39, v40, v41, v42, v43, v44, v45, v46, v47, v48, v49, v50, v51, v52, v53, v54, v55, v56, v57, v58, v59, v60, v61, v62, v63, v64, v65, v66, v67, v68, v69, v70, v71, v72, v73, v74, v75, v76, v77, v78, v79, v80, v81, v82, v83, v84, v85, v86, c87, c88, c89, c90, c91, c92, c93, c94, c95, c96, c97, c98, c99, c100, c101, c102, c103, c104, c105, c106, c107, c108, c109, c110, c111, c112, c113, c114, c115, c116, c117, c118, c119, c120, c121, c122, c123, c124, c125, c126, c127, c128, c129, c130, c131, c132, c133, c134, c135, c136, c137, c138, c139, c140, c141, c142, c143, c144, c145, c146, c147, c148, c149, c150, c151, c152, c153, c154, c155, c156, c157, c158, c159, c160, c161, c162, c163, c164, c165, c166, c167, c168, c169, c170, c171, c172, c173, c174, c175, c176, c177, c178, c179, c180, c181, c182, c183, c184, c185, c186, c187, c188, c189, c190, c191, c192, c193, c194, c195, c196, c197, c198, c199, c200, c201, c202, c203, c204, c205, c206, c207, c208, c209, c210, c211, c212, c213, c214, c215, c216, c217, c218, c219, c220, c221, c222, c223, c224, c225, c226, c227, c228, c229, c230, c231, c232, c233, c234, c235, c236, c237, c238, c239, c240, c241, c242, c243, c244, c245, c246, c247, c248, c249, c250, c251, c252, c253, c254, c255, c256, c257, c258, c259, c260, c261, c262, c263, c264, c265, c266, c267, c268, c269, c270, c271, c272, c273, c274, c275, c276, c277, c278, c279, c280, c281, c282, c283, c284, c285, c286, c287, c288, c289, c290, c291, c292, c293, c294, c295, c296, c297, c298, c299, c300, c301], []⟩ x') := by
        refine Lib.hid fun v10 v11 v12 v15 v19 v33 v34 v35 v36 v37 v38 v39 v40 v41 v42 v43 v44 v45 v46 v47 v48 v49 v50 v51 v52 v53 v54 v55 v56 v57 v58 v59 v60 v61 v62 v63 v64 v65 v66 v67 v68 v69 v70 v71 v72 v73 v74 v75 v76 v77 v78 v79 v80 v81 v82 v83 v84 v85 v86 b1 x' pos2 a2 F2 fi op hop hfi h1 h2 h3 h4 h5 => ?_
        subst hfi
        subst hop
        exact HK.out b0 b1 v10 v11 v12 v15 v19 v33 v34 v35 v36 v37 v38 v39 v40 v41 v42 v43 v44 v45 v46 v47 v48 v49 v50 v51 v52 v53 v54 v55 v56 v57 v58 v59 v60 v61 v62 v63 v64 v65 v66 v67 v68 v69 v70 v71 v72 v73 v74 v75 v76 v77 v78 v79 v80 v81 v82 v83 v84 v85 v86 x' pos2 a2 F2 (by rw [HRS.out]; simp; omega) (by rw [HRS.out]; rfl) (by rw [HRS.out, List.getD_cons_succ]; exact h2) hrsv h3 (by rw [h4, HRS.out]; rfl) h5
      rcases HT2.out with ⟨hz, hfi⟩ | ⟨hz, hfi⟩
      all_goals
        subst hz
        go_wp2_with fail
        with_reducible refine (HGT.out).mono ?_
        rintro e x1 (⟨te, ve, rfl, h1⟩ | ⟨g', o', c', pos', a', F', rfl, h1⟩)
        · go_wp2_with fail
          exact HR.out (Or.inl (by rw [HRS.out]; have := h1.out.1; simp; omega)) te ve x1 h1.out.2
        · obtain ⟨b1, l2, hl⟩ : ∃ b1 l2, rest B (o + (pos + 1)) F = b1 :: l2 := by
            have h := h1.out.2.2.1
            match hh : rest B (o + (pos + 1)) F with
            | [] => rw [hh] at h; simp at h
            | b1 :: l2 => exact ⟨b1, l2, rfl⟩
          have k0 : x1.cell? ⟨g', o', none⟩ = some (.int .u8 b1.toNat) := h1.out.2.2.2.2.1 0 b1 (by decide) (by rw [hl]; rfl)
          have HL := Lib.hid hl
          have hc' := h1.out.2.1
          obtain ⟨s1, s2, s3, s4, s5⟩ := bits_b0 b1.toNat b1.toNat_lt
          have r4' := h1.out.2.2.2.2.2.rd.c4
          have r0' := h1.out.2.2.2.2.2.rd.c0
          have f0' := h1.out.2.2.2.2.2.rd.fz 0
          have hb1 := b1.toNat_lt
          clear hl s1 s3 s4
          by_cases hmask : b1.toNat < 128
          · have hz : b1.toNat / 128 * 128 = 0 := by omega
            rw [hz] at s2
            go_wp2_with fail
            with_reducible refine (perr_any _ _ _).mono ?_
            rintro e x3 ⟨te, ve, rfl, hb3⟩
            have HEO := Lib.hid (h1.out.2.2.2.2.2.eo' HE.out hb3)
            clear hb3
            go_wp2_with fail
            exact HR.out (Or.inr (Or.inr (by rw [HRS.out, HL.out]; exact hmask))) te ve x3 HEO.out
          · have hz : b1.toNat / 128 * 128 = 128 := by omega
            rw [hz] at s2
            have hw2 : IntKind.u64.wrap ((b1.toNat % 128 : Nat) : Int) = ((b1.toNat % 128 : Nat) : Int) := IntWalk.u64_in _ (by omega)
            obtain ⟨q, hq⟩ : ∃ q, b1.toNat % 128 = q := ⟨_, rfl⟩
            rw [hq] at s5 hw2
            have HQ := Lib.hid hq
            have HB3 := Lib.hid (h1.out.2.2.2.2.2.rdw HE.out ((But.refl (fun k => k = E.R) x1).setCell ⟨E.R, 0, none⟩ (.int .u64 q) rfl) (h1.out.2.2.2.2.2.rd.set0 q))
            clear hq
            have HB4 := Lib.hid (show Bs E g o m (x1.setCell ⟨E.R, 0, none⟩ (.int .u64 q)) pos' a' F' { r with rem := b1.toNat % 128 } kv nk B D outs ov from by rw [HQ.out]; exact HB3.out)
            have HFI := Lib.hid hfi
            go_upto_region 22 with fail
            rename_i hks
            have HKS := Lib.hid hks
            clear hks
            go_wp2_with fail
            refine HKS.out _ _ ?_
            exact hK2.out _ _ _ _ _ _ _ _ _ _ _ _ _ _ _ _ _ _ _ _ _ _ _ _ _ _ _ _ _ _ _ _ _ _ _ _ _ _ _ _ _ _ _ _ _ _ _ _ _ _ _ _ _ _ _ _ _ _ _ b1 _ pos' a' F' _ op HOP.out (by first | exact (decide_eq_true HFI.out).symm | exact (decide_eq_false HFI.out).symm) h1.out.2.2.1 (by rw [HL.out]; rfl) (by omega) h1.out.2.2.2.1 HB4.out
    · have hrsv : b0.toNat / 16 % 8 ≠ 0 := by omega
      have h64' : b0.toNat / 64 % 2 = 1 := by omega
      rw [h64'] at t3
      go_wp2_with fail
      with_reducible refine (perr_any _ _ _).mono ?_
      rintro e x3 ⟨te, ve, rfl, hb3⟩
      have HEO := Lib.hid (HB1.out.eo' HE.out hb3)
      clear hb3
      go_wp2_with fail
      exact HR.out (Or.inr (Or.inl (by rw [HRS.out]; exact hrsv))) te ve x3 HEO.out
  · have hrsv : b0.toNat / 16 % 8 ≠ 0 := by omega
    obtain ⟨z, hz, hz0⟩ : ∃ z : Nat, b0.toNat / 16 % 4 * 16 = z ∧ z ≠ 0 := ⟨_, rfl, by omega⟩
    rw [hz] at t4
    have hz1 : ¬ ((z : Int) = 0) := by omega
    clear hz
    go_wp2_with fail
    with_reducible refine (perr_any _ _ _).mono ?_
    rintro e x3 ⟨te, ve, rfl, hb3⟩
    have HEO := Lib.hid (HB1.out.eo' HE.out hb3)
    clear hb3
    go_wp2_with fail
    exact HR.out (Or.inr (Or.inl (by rw [HRS.out]; exact hrsv))) te ve x3 HEO.out
end Go.Proofs.YtkkedekgniffoaaDoor
