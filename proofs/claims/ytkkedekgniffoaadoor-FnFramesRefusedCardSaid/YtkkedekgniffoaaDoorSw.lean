/-
  wsReadLoop: the opcode's switch.
-/
import Derived.Test.YtkkedekgniffoaaDoorMk
namespace Go.Proofs.YtkkedekgniffoaaDoor
open Go.RowKit
set_option maxHeartbeats 8000000 in
set_option maxRecDepth 1000000 in
theorem sw_wp (E : Nm) (hE : E.Ok) (g o m c : Nat) (x : World) (pos a : Nat) (F : List Pc) (r : RdV) (kv : Value) (nk : Nat) (B : List UInt8) (D : List Ch) (outs : List Value) (ov : Value) (hB : Bs E g o m x pos a F r kv nk B D outs ov) (op : Nat) (fi : Bool)
    (c4 c5 c6 c7 c8 c9 c10 c11 c12 c14 c15 c19 c20 c21 c22 c23 c24 c25 c26 c27 c28 c29 c30 c31 c32 c33 c34 c35 c36 c37 c38 c39 c40 c41 c42 c43 c44 c45 c46 c47 c48 c49 c50 c51 c52 c53 c54 c55 c56 c57 c58 c59 c60 c61 c62 c63 c64 c65 c66 c67 c68 c69 c70 c71 c72 c73 c74 c75 c76 c77 c78 c79 c80 c81 c82 c83 c84 c85 c86 c87 c88 c89 c90 c91 c92 c93 c94 c95 c96 c97 c98 c99 c100 c101 c102 c103 c104 c105 c106 c107 c108 c109 c110 c111 c112 c113 c114 c115 c116 c117 c118 c119 c120 c121 c122 c123 c124 c125 c126 c127 c128 c129 c130 c131 c132 c133 c134 c135 c136 c137 c138 c139 c140 c141 c142 c143 c144 c145 c146 c147 c148 c149 c150 c151 c152 c153 c154 c155 c156 c157 c158 c159 c160 c161 c162 c163 c164 c165 c166 c167 c168 c169 c170 c171 c172 c173 c174 c175 c176 c177 c178 c179 c180 c181 c182 c183 c184 c185 c186 c187 c188 c189 c190 c191 c192 c193 c194 c195 c196 c197 c198 c199 c200 c201 c202 c203 c204 c205 c206 c207 c208 c209 c210 c211 c212 c213 c214 c215 c216 c217 c218 c219 c220 c221 c222 c223 c224 c225 c226 c227 c228 c229 c230 c231 c232 c233 c234 c235 c236 c237 c238 c239 c240 c241 c242 c243 c244 c245 c246 c247 c248 c249 c250 c251 c252 c253 c254 c255 c256 c257 c258 c259 c260 c261 c262 c263 c264 c265 c266 c267 c268 c269 c270 c271 c272 c273 c274 c275 c276 c277 c278 c279 c280 c281 c282 c283 c284 c285 c286 c287 c288 c289 c290 c291 c292 c293 c294 c295 c296 c297 c298 c299 c300 c301 : Value) (K K1 K2 K3 : Act → World → Prop) (Post : Ending → World → Prop)
    (hErr : Fr.okOp r.ff op r.rem fi = none → ∀ te ve x', Eo E x' kv 0 D outs ov → Post (.returned (.iface te ve)) x')
    (hK : ∀ (v10 v87 v88 v89 v90 v91 v92 v93 v94 v95 v96 v97 v98 v99 v100 v101 v102 v103 v104 v105 v106 v107 v108 v109 v110 v111 v112 v113 v114 v115 v116 v117 v118 v119 v120 v121 v122 v123 v124 v125 v126 v127 v128 v129 v130 v131 v132 v133 v134 v135 v136 v137 v138 v139 v140 : Value) (x' : World) (f : Bool), Fr.okOp r.ff op r.rem fi = some f → Bs E g o m x' pos a F { r with ff := f } kv nk B D outs ov → K ⟨#[.pointer (some ⟨E.C, 0, none⟩), .pointer (some ⟨E.R, 0, none⟩), .iface 67 (.pointer (some ⟨E.P, 0, none⟩)), .slice (some ⟨g, o, none⟩) m c, c4, c5, c6, c7, c8, c9, v10, c11, c12, .int .u64 pos, c14, c15, .int .i64 op, .bool fi, .bool false, c19, c20, c21, c22, c23, c24, c25, c26, c27, c28, c29, c30, c31, c32, c33, c34, c35, c36, c37, c38, c39, c40, c41, c42, c43, c44, c45, c46, c47, c48, c49, c50, c51, c52, c53, c54, c55, c56, c57, c58, c59, c60, c61, c62, c63, c64, c65, c66, c67, c68, c69, c70, c71, c72, c73, c74, c75, c76, c77, c78, c79, c80, c81, c82, c83, c84, c85, c86, v87, v88, v89, v90, v91, v92, v93, v94, v95, v96, v97, v98, v99, v100, v101, v102, v103, v104, v105, v106, v107, v108, v109, v110, v111, v112, v113, v114, v115, v116, v117, v118, v119, v120, v121, v122, v123, v124, v125, v126, v127, v128, v129, v130, v131, v132, v133, v134, v135, v136, v137, v138, v139, v140, c141, c142, c143, c144, c145, c146, c147, c148, c149, c150, c151, c152, c153, c154, c155, c156, c157, c158, c159, c160, c161, c162, c163, c164, c165, c166, c167, c168, c169, c170, c171, c172, c173, c174, c175, c176, c177, c178, c179, c180, c181, c182, c183, c184, c185, c186, c187, c188, c189, c190, c191, c192, c193, c194, c195, c196, c197, c198, c199, c200, c201, c202, c203, c204, c205, c206, c207, c208, c209, c210, c211, c212, c213, c214, c215, c216, c217, c218, c219, c220, c221, c222, c223, c224, c225, c226, c227, c228, c229, c230, c231, c232, c233, c234, c235, c236, c237, c238, c239, c240, c241, c242, c243, c244, c245, c246, c247, c248, c249, c250, c251, c252, c253, c254, c255, c256, c257, c258, c259, c260, c261, c262, c263, c264, c265, c266, c267, c268, c269, c270, c271, c272, c273, c274, c275, c276, c277, c278, c279, c280, c281, c282, c283, c284, c285, c286, c287, c288, c289, c290, c291, c292, c293, c294, c295, c296, c297, c298, c299, c300, c301], []⟩ x') :
    Code.wp Tryd.prog swC (Exit.then K (Exit.then K1 (Exit.inBlock 1 (Exit.then K2 (Exit.inBlock 0 (Exit.then K3 (bodyPost Tryd.prog Tryd.f21 Post))))))) ⟨#[.pointer (some ⟨E.C, 0, none⟩), .pointer (some ⟨E.R, 0, none⟩), .iface 67 (.pointer (some ⟨E.P, 0, none⟩)), .slice (some ⟨g, o, none⟩) m c, c4, c5, c6, c7, c8, c9, c10, c11, c12, .int .u64 pos, c14, c15, .int .i64 op, .bool fi, .bool false, c19, c20, c21, c22, c23, c24, c25, c26, c27, c28, c29, c30, c31, c32, c33, c34, c35, c36, c37, c38, c39, c40, c41, c42, c43, c44, c45, c46, c47, c48, c49, c50, c51, c52, c53, c54, c55, c56, c57, c58, c59, c60, c61, c62, c63, c64, c65, c66, c67, c68, c69, c70, c71, c72, c73, c74, c75, c76, c77, c78, c79, c80, c81, c82, c83, c84, c85, c86, c87, c88, c89, c90, c91, c92, c93, c94, c95, c96, c97, c98, c99, c100, c101, c102, c103, c104, c105, c106, c107, c108, c109, c110, c111, c112, c113, c114, c115, c116, c117, c118, c119, c120, c121, c122, c123, c124, c125, c126, c127, c128, c129, c130, c131, c132, c133, c134, c135, c136, c137, c138, c139, c140, c141, c142, c143, c144, c145, c146, c147, c148, c149, c150, c151, c152, c153, c154, c155, c156, c157, c158, c159, c160, c161, c162, c163, c164, c165, c166, c167, c168, c169, c170, c171, c172, c173, c174, c175, c176, c177, c178, c179, c180, c181, c182, c183, c184, c185, c186, c187, c188, c189, c190, c191, c192, c193, c194, c195, c196, c197, c198, c199, c200, c201, c202, c203, c204, c205, c206, c207, c208, c209, c210, c211, c212, c213, c214, c215, c216, c217, c218, c219, c220, c221, c222, c223, c224, c225, c226, c227, c228, c229, c230, c231, c232, c233, c234, c235, c236, c237, c238, c239, c240, c241, c242, c243, c244, c245, c246, c247, c248, c249, c250, c251, c252, c253, c254, c255, c256, c257, c258, c259, c260, c261, c262, c263, c264, c265, c266, c267, c268, c269, c270, c271, c272, c273, c274, c275, c276, c277, c278, c279, c280, c281, c282, c283, c284, c285, c286, c287, c288, c289, c290, c291, c292, c293, c294, c295, c296, c297, c298, c299, c300, c301], []⟩ x := by
  have HE := Lib.hid hE
  have HB := Lib.hid hB
  have HK := Lib.hid hK
  have HR := Lib.hid hErr
  have r0 := hB.rd.c0
  have r2 := hB.rd.c2
  have f2 := hB.rd.fz 2
  have f3 := hB.rd.fz 3
  have r3 := hB.rd.c3
  clear hE hB hK hErr
  conv => arg 2; whnf
  by_cases hctl : op = 8 ∨ op = 9 ∨ op = 10
  · have HO := Lib.hid (Fr.okOp_ctl (ff := r.ff) (fi := fi) (rem := r.rem) hctl)
    by_cases hbig : 125 < r.rem
    · have e1 : (125 : Int) < (r.rem : Int) := by omega
      rcases hctl with rfl | rfl | rfl
      all_goals
        go_wp2_with fail
        with_reducible refine (perr_any _ _ _).mono ?_
        rintro e x3 ⟨te, ve, rfl, hb3⟩
        have HEO := Lib.hid (HB.out.eo' HE.out hb3)
        clear hb3
        go_wp2_with fail
        exact HR.out (by rw [HO.out, if_pos hbig]) te ve x3 HEO.out

    · have e1 : ¬ ((125 : Int) < (r.rem : Int)) := by omega
      cases fi with
      | false =>
        rcases hctl with rfl | rfl | rfl
        all_goals
          go_wp2_with fail
          with_reducible refine (perr_any _ _ _).mono ?_
          rintro e x3 ⟨te, ve, rfl, hb3⟩
          have HEO := Lib.hid (HB.out.eo' HE.out hb3)
          clear hb3
          go_wp2_with fail
          exact HR.out (by rw [HO.out, if_neg hbig]; simp) te ve x3 HEO.out

      | true =>
        rcases hctl with rfl | rfl | rfl
        all_goals
          go_wp2_with fail
          exact HK.out _ _ _ _ _ _ _ _ _ _ _ _ _ _ _ _ _ _ _ _ _ _ _ _ _ _ _ _ _ _ _ _ _ _ _ _ _ _ _ _ _ _ _ _ _ _ _ _ _ _ _ _ _ _ _ x r.ff (by rw [HO.out, if_neg hbig]; simp) (HB.out)

  · by_cases hdat : op = 1 ∨ op = 2
    · have HO := Lib.hid (Fr.okOp_data (ff := r.ff) (fi := fi) (rem := r.rem) hdat)
      cases hff : r.ff with
      | false =>
        rw [hff] at r2 HO
        rcases hdat with rfl | rfl
        all_goals
          go_wp2_with fail
          with_reducible refine (perr_any _ _ _).mono ?_
          rintro e x3 ⟨te, ve, rfl, hb3⟩
          have HEO := Lib.hid (HB.out.eo' HE.out hb3)
          clear hb3
          go_wp2_with fail
          exact HR.out (by rw [hff, HO.out]; rfl) te ve x3 HEO.out

      | true =>
        rw [hff] at r2 HO
        have HB2 := Lib.hid (HB.out.rdw HE.out (((But.refl (fun k => k = E.R) x).setCell ⟨E.R, 2, none⟩ (.bool fi) rfl).setCell ⟨E.R, 3, none⟩ (.bool false) rfl) ((HB.out.rd.set2 fi).set3))
        rcases hdat with rfl | rfl
        all_goals
          go_wp2_with fail
          exact HK.out _ _ _ _ _ _ _ _ _ _ _ _ _ _ _ _ _ _ _ _ _ _ _ _ _ _ _ _ _ _ _ _ _ _ _ _ _ _ _ _ _ _ _ _ _ _ _ _ _ _ _ _ _ _ _ _ fi (by rw [hff, HO.out]; rfl) (HB2.out)

    · by_cases h0 : op = 0
      · subst h0
        have HO := Lib.hid (Fr.okOp_cont (ff := r.ff) (fi := fi) (rem := r.rem))
        cases hff : r.ff with
        | false =>
          rw [hff] at r2 HO
          have HB2 := Lib.hid (HB.out.rdw HE.out ((But.refl (fun k => k = E.R) x).setCell ⟨E.R, 2, none⟩ (.bool fi) rfl) (HB.out.rd.set2 fi))
          go_wp2_with fail
          exact HK.out _ _ _ _ _ _ _ _ _ _ _ _ _ _ _ _ _ _ _ _ _ _ _ _ _ _ _ _ _ _ _ _ _ _ _ _ _ _ _ _ _ _ _ _ _ _ _ _ _ _ _ _ _ _ _ _ fi (by rw [hff, HO.out]; rfl) (HB2.out)

        | true =>
          rw [hff] at r2 HO
          go_wp2_with fail
          with_reducible refine (perr_any _ _ _).mono ?_
          rintro e x3 ⟨te, ve, rfl, hb3⟩
          have HEO := Lib.hid (HB.out.eo' HE.out hb3)
          clear hb3
          go_wp2_with fail
          exact HR.out (by rw [hff, HO.out]; rfl) te ve x3 HEO.out

      · have HO := Lib.hid (Fr.okOp_none (ff := r.ff) (fi := fi) (op := op) (rem := r.rem) (by omega))
        have n0 : ¬ ((op : Int) = 0) := by omega
        have n1 : ¬ ((op : Int) = 1) := by omega
        have n2 : ¬ ((op : Int) = 2) := by omega
        have n8 : ¬ ((op : Int) = 8) := by omega
        have n9 : ¬ ((op : Int) = 9) := by omega
        have n10 : ¬ ((op : Int) = 10) := by omega
        go_wp2_with fail
        with_reducible refine (perr_any _ _ _).mono ?_
        rintro e x3 ⟨te, ve, rfl, hb3⟩
        have HEO := Lib.hid (HB.out.eo' HE.out hb3)
        clear hb3
        go_wp2_with fail
        exact HR.out (HO.out) te ve x3 HEO.out
end Go.Proofs.YtkkedekgniffoaaDoor
