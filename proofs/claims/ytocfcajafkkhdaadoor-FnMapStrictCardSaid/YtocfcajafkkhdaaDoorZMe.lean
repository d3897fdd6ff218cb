/-
  The reference's Mapped. Printed by wip/py/gen_md.py.
-/
import Derived.Test.YtocfcajafkkhdaaDoorZG11
import Derived.Laws.AppendOwnNone
import Derived.Deep.Cut
namespace Go.Proofs.YtocfcajafkkhdaaDoor
open Go.RowKit

/-- what a mapping that is built is -/
def MdFacts (ws : List (List UInt8)) (r : Bool) (dest : List Pi) (ss ts : List (List UInt8)) (miss : Int) (s1 to subj out : ByteArray) (k : Int) : Prop :=
  s1.data.toList = jn 46 (srcT ws r) ∧ srcT ws r ≠ [] ∧ (∀ u ∈ ws, u = [] ∨ MW u) ∧ ss.length = stars ws ∧ (∀ u ∈ ss, MW u) ∧ (∀ u ∈ ts, MW u) ∧ (r = true ↔ ts ≠ []) ∧ dest ≠ [] ∧ (∀ p ∈ dest, Right ss.length p) ∧
  subj.data.toList = jn 46 (subs ws ss miss ws.length ++ ts) ∧ Kd ws miss ws.length k ∧ to.data.toList = jn 46 (dest.map written) ++ (if r = true then [46, 62] else []) ∧
  (k = 0 → ∃ out0, Outs dest ss dest.length out0 ∧ out.data.toList = out0 ++ (if r = true then tailed ts else []))
def MdPost (ws : List (List UInt8)) (r : Bool) (dest : List Pi) (ss ts : List (List UInt8)) (miss : Int) (w : World) (e : Ending) (w' : World) : Prop :=
  ∃ (b : Bool) (s1 to subj out : ByteArray) (k : Int), e = .returned (.tuple #[.string s1, .string to, .string subj, .string out, .int .i64 k, .bool b]) ∧ Below w.heap.size w w' ∧ (b = true → MdFacts ws r dest ss ts miss s1 to subj out k)
theorem MdPost.no {ws : List (List UInt8)} {r : Bool} {dest : List Pi} {ss ts : List (List UInt8)} {miss : Int} {w w' : World} (h : Below w.heap.size w w') : MdPost ws r dest ss ts miss w (.returned (.tuple #[.string ⟨#[]⟩, .string ⟨#[]⟩, .string ⟨#[]⟩, .string ⟨#[]⟩, .int .i64 0, .bool false])) w' :=
  ⟨false, _, _, _, _, _, rfl, h, fun h => by cases h⟩
set_option maxRecDepth 100000 in
theorem wpList_app_strs {ops : Array Oper} {rest : List Oper} {o : Oper} {a : Act} {w : World} {Q : Exit → Act → World → Prop} (hgd : o.guard = none) (s x : Operand) (ho : o.op = .call { callee := .builtin .append, args := #[s, x], argTypes := #[22, 22] })
    (base : Nat) (v : Value) (n : Nat) (xs : List Value) (hs : a.eval s = v) (hown : w.ownsRow base 9 1 v n xs) (A : Option Addr) (m c : Nat) (l : List (List UInt8)) (hx : a.eval x = .slice A m c) (hA : A = none → m = 0 ∧ c = 0) (hm : l.length = m) (hL : K.Lies w A m (svs l))
    (hn : n + m ≤ 100000) (hbase : base ≤ w.heap.size) (q : Nat) (hq : n + m = q) (h : ∀ A' c' w', w'.ownsRow base 9 1 (.slice A' q c') q (xs ++ l.map sv) → w.grownBy w' v.ownBlock → wpList Tryd.prog ops Q rest (a.put o.dst (.slice A' q c')) w') : wpList Tryd.prog ops Q (o :: rest) a w := by
  obtain ⟨i0, hi0, hz0, hz1, hz2⟩ := info_parts info9
  subst hm
  subst hq
  cases A with
  | none =>
    obtain ⟨h1, h2⟩ := hA rfl
    obtain rfl : l = [] := List.eq_nil_of_length_eq_zero h1
    subst h2
    refine wpList_append_own_none hgd s x 22 ho base 9 i0 1 Tryd.underlying22 hi0 v n xs hs hown hx ?_
    obtain ⟨A', c', rfl, _⟩ := K.lies_of_own hown
    exact h A' c' w (by simpa using hown) (World.grownBy.refl _ _)
  | some ad =>
    refine wpList_append_own _ hgd s x 22 ho base 9 i0 (.string ByteArray.empty) 1 16 Tryd.underlying22 hi0 hz0 hz1 hz2 rfl (by decide) v n xs hs hown ad l.length c (l.map sv) hx (by simp) ?_ (by intro u hu; obtain ⟨t, _, rfl⟩ := List.mem_map.1 hu; rfl) (by unfold maxLen; omega) (by omega) hbase (fun v' w' h1 h2 _ => ?_)
    · intro j u hu
      have hj : j < l.length := by have := (List.getElem?_eq_some_iff.1 hu).1; simpa using this
      obtain ⟨ab, ao, e, _, hc⟩ := hL (by omega)
      injection e with e
      subst e
      rw [Addr.add_lit, hc j hj]
      simp [svs, List.getD, hj] at hu ⊢
      exact hu
    · obtain ⟨A', c', rfl, _⟩ := K.lies_of_own h1
      exact h A' c' w' h1 h2
set_option maxHeartbeats 8000000 in
set_option maxRecDepth 1000000 in
theorem mapped_any (w : World) (A0 : Option Addr) (d0 : Nat) (r : Bool) (A2 : Option Addr) (d2 : Nat) (A3 : Option Addr) (d3 : Nat) (A4 : Option Addr) (d4 : Nat) (miss : Int) (ws : List (List UInt8)) (dest : List Pi) (ss ts : List (List UInt8)) (hC : Mc w A0 A2 A3 A4 ws dest ss ts) (hl : Ml ws dest ss ts)
    (hA3 : A3 = none → ss.length = 0 ∧ d3 = 0) (hA4 : A4 = none → ts.length = 0 ∧ d4 = 0) :
    Calls Tryd.prog 10 #[.slice A0 ws.length d0, .bool r, .slice A2 dest.length d2, .slice A3 ss.length d3, .slice A4 ts.length d4, .int .i64 miss] w (MdPost ws r dest ss ts miss w) := by
  have h17 := mapSource_any ws r A0 d0 w hl.w0 hl.w1 hC.l0
  have HC := Lib.hid (And.intro hC (And.intro hl (And.intro hA3 hA4)))
  have hd8 := hl.d0
  have ht4 := hl.t0
  have hs8 := hl.s0
  obtain ⟨m4, hm4⟩ : ∃ m4, ts.length = m4 := ⟨_, rfl⟩
  have HL4 := Lib.hid (show (A4 = none → m4 = 0 ∧ d4 = 0) ∧ ts.length = m4 ∧ K.Lies w A4 m4 (svs ts) from ⟨by rw [← hm4]; exact hA4, hm4, by rw [← hm4]; exact hC.l4⟩)
  rw [hm4] at ht4 ⊢
  clear hC hl hA3 hA4 hm4
  go_enter Tryd.func10, Tryd.ntmps10
  go_wp2_with fail
  refine h17.mono ?_
  rintro e w1 ⟨b, s1, k, rfl, rfl, hs1, hb⟩
  clear h17
  cases b with
  | false =>
    clear hb
    go_wp2_with fail
    refine bodyPost_ret (six_results _ (by kernel_rfl) _ _ _) rfl ?_
    exact MdPost.no (Below.refl _ _)
  | true =>
    obtain ⟨n1, rfl, n3, n5⟩ := hb rfl
    have HM := Lib.hid (And.intro n1 (And.intro n3 n5))
    clear hb n1 n3 n5
    have g1 : ¬ (30 : Int) < (dest.length : Int) := by omega
    have g2 : ¬ (30 : Int) < (m4 : Int) := by omega
    obtain ⟨q, hq⟩ : ∃ q, stars ws = q := ⟨_, rfl⟩
    by_cases e1 : ss.length = q
    · have f1 : ((ss.length : Int) != (q : Int)) = false := by rw [e1]; simp
      have HE := Lib.hid (And.intro e1 hq)
      rw [hq]
      clear e1 hq
      by_cases e4 : 0 < m4
      · have f2 : (0 : Int) < (m4 : Int) := by omega
        have hne : ¬ m4 = 0 := by omega
        have HT := Lib.hid (show 0 < ts.length by rw [HL4.out.2.1]; exact e4)
        clear e4
        cases r with
        | true =>
          by_cases e3 : dest.length = 0
          · have f3 : ((dest.length : Int) == 0) = true := by rw [e3]; rfl
            clear e3
            go_wp2_with fail
            refine bodyPost_ret (six_results _ (by kernel_rfl) _ _ _) rfl ?_
            exact MdPost.no (Below.refl _ _)
          · have f3 : ((dest.length : Int) == 0) = false := by rw [beq_eq_false_iff_ne]; omega
            have HD := Lib.hid e3
            clear e3
            have b22 : w.ownsRow w.heap.size 9 1 (.slice none 0 0) 0 [] := World.ownsRow_nil _ _ _ _
            go_upto_region 4 with (fail)
            rename_i K9 hK9 K8 hK8
            have HK9 := Lib.hid hK9
            clear hK9
            go_upto_region 5 with (at_builtin; first | (refine wpList_app_strs rfl _ (.tmp 69) rfl w.heap.size _ 0 [] rfl b22 A3 ss.length d3 ss rfl HC.out.2.2.1 rfl HC.out.1.l3 (by omega) (Nat.le_refl _) ss.length (Nat.zero_add _) ?_; intro A5 c5 w5 hown5 hg5; have HB5 := Lib.hid (show Below w.heap.size w w5 from (Below.refl _ w).grown hg5 (Nat.le_refl _) (fun k hk => by cases hk)); clear hg5) | (refine wpList_app_strs rfl (.tmp 70) (.tmp 71) rfl w.heap.size _ _ _ rfl hown5 A4 m4 d4 ts rfl HL4.out.1 HL4.out.2.1 (HL4.out.2.2.below HB5.out (Nat.le_refl _)) (by omega) HB5.out.size (ss.length + m4) rfl ?_; intro A6 c6 w6 hown6 hg6; have HB6 := Lib.hid (show Below w.heap.size w w6 from HB5.out.grown hg6 HB5.out.size (fun k hk => (hown5.lt k hk).1)); clear hg6))
            have hall : w6.ownsRow w.heap.size 9 1 (.slice A6 (ss.length + m4) c6) (ss.length + m4) ((ss ++ ts).map sv) := by simpa using hown6
            obtain ⟨A7, c7, e7, _, _, hL7, _⟩ := K.lies_of_own hall
            injection e7 with e7 e8 e9
            subst e7
            subst e9
            clear e8
            have hlen : (ss ++ ts).length = ss.length + m4 := by rw [List.length_append, HL4.out.2.1]
            have hL8 : K.Lies w6 A6 (ss ++ ts).length (svs (ss ++ ts)) := by rw [hlen]; exact hL7
            have hsz : ∀ u ∈ ss ++ ts, u.length ≤ 20 := fun u hu => by
              rcases List.mem_append.1 hu with hu | hu
              · exact HC.out.2.1.s1 u hu
              · exact HC.out.2.1.t1 u hu
            have H8 := Lib.hid (And.intro hL8 (And.intro hsz hlen))
            clear hown5 hown6 hall hL7 hL8 hsz hlen
            go_loopg [12, 13, 14, 15, 16, 17, 74] (ss.length + m4) (fun gk v12 v13 v14 v15 v16 v17 i wv => ∃ j : Nat, gk + j = ss.length + m4 ∧ v12 = .string s1 ∧ v13 = .string ⟨#[]⟩ ∧ v14 = .string ⟨#[]⟩ ∧ v15 = .string ⟨#[]⟩ ∧ v16 = .int .i64 0 ∧ v17 = .bool true ∧ i = .int .i64 j ∧ wv = w6 ∧ Hid (∀ u ∈ (ss ++ ts).take j, MW u))
            case atStart => exact ⟨0, by omega, rfl, rfl, rfl, rfl, rfl, rfl, rfl, rfl, Lib.hid (fun u hu => by simp at hu)⟩
            case round =>
              obtain ⟨j, hj, rfl, rfl, rfl, rfl, rfl, rfl, rfl, rfl, HW⟩ := hrel
              have HGK := Lib.hid hj
              clear hj
              by_cases hlt : j < ss.length + m4
              · have hlt2 : j < (ss ++ ts).length := by rw [H8.out.2.2]; exact hlt
                obtain ⟨ab, ao, tb, rfl, c1, htl, hmem, _⟩ := lies_at H8.out.1 hlt2
                have hsz : tb.size ≤ 20 := by rw [← K.bsize, htl]; exact H8.out.2.1 _ hmem
                have h18 := mapWord_any tb wr (by omega)
                have HT2 := Lib.hid (And.intro htl (take_getD hlt2))
                clear htl hmem hlt2
                go_wp2_with fail
                refine h18.mono ?_
                rintro e w7 ⟨b, rfl, rfl, hb⟩
                clear h18
                cases b with
                | false =>
                  clear hb
                  go_wp2_with fail
                  refine bodyPost_ret (six_results _ (by kernel_rfl) _ _ _) rfl ?_
                  exact MdPost.no HB6.out
                | true =>
                  have HB := Lib.hid (hb rfl)
                  clear hb
                  go_wp2_with fail
                  go_roundg (gk - 1)
                  case measure => have := HGK.out; omega
                  case rel =>
                    refine ⟨j + 1, by have := HGK.out; omega, rfl, rfl, rfl, rfl, rfl, rfl, by go_num, rfl, Lib.hid fun u hu => ?_⟩
                    rw [HT2.out.2] at hu
                    rcases List.mem_append.1 hu with hu | hu
                    · exact HW.out u hu
                    · obtain rfl := List.mem_singleton.1 hu
                      rw [← HT2.out.1]
                      exact HB.out
              · have hall : ∀ u ∈ ss ++ ts, MW u := fun u hu => HW.out u (by rw [List.take_of_length_le (by rw [H8.out.2.2]; omega)]; exact hu)
                have HA := Lib.hid (show (∀ u ∈ ss, MW u) ∧ ∀ u ∈ ts, MW u from ⟨fun u hu => hall u (List.mem_append_left _ hu), fun u hu => hall u (List.mem_append_right _ hu)⟩)
                clear hall
                have HE2 : Hid (ss.length = stars ws) := Lib.hid (HE.out.1.trans HE.out.2.symm)
                go_wp2_with fail
                refine HK9.out _ _ ?_
                rw [show (q : Int) = (ss.length : Int) from by rw [HE.out.1]]
                refine restB_any wr A0 ws.length d0 true A2 dest.length d2 A3 ss.length d3 A4 m4 d4 miss s1 ⟨#[]⟩ ⟨#[]⟩ ⟨#[]⟩ 0 ws dest ss ts (HC.out.1.below HB6.out) HC.out.2.1 rfl rfl rfl HL4.out.2.1.symm rfl rfl rfl rfl HE2.out (fun u hu => (HA.out.1 u hu).1) (fun u hu => (HA.out.2 u hu).1) _ _ ?_ (fun w' hb => MdPost.no (HB6.out.trans (hb.mono HB6.out.size))) (fun w' to subj out k out0 h1 h2 h3 h4 h5 h6 => ⟨true, s1, to, subj, out, k, rfl, HB6.out.trans (h1.mono HB6.out.size), fun _ =>
                  ⟨HM.out.1, HM.out.2.2, HM.out.2.1, HE2.out, HA.out.1, HA.out.2, ⟨fun _ => List.length_pos_iff.1 HT.out, fun _ => rfl⟩, fun e => HD.out (by rw [e]; rfl), h2, h3, h4, h5, fun hk => ⟨out0, h6 hk⟩⟩⟩)
                refine back10 ?_
                kernel_rfl
        | false =>
          go_wp2_with fail
          refine bodyPost_ret (six_results _ (by kernel_rfl) _ _ _) rfl ?_
          exact MdPost.no (Below.refl _ _)
      · have f2 : ¬ (0 : Int) < (m4 : Int) := by omega
        have f4 : ¬ 0 < m4 := by omega
        have HT := Lib.hid (show ts = [] from List.eq_nil_of_length_eq_zero (by rw [HL4.out.2.1]; omega))
        clear e4
        cases r with
        | true =>
          go_wp2_with fail
          refine bodyPost_ret (six_results _ (by kernel_rfl) _ _ _) rfl ?_
          exact MdPost.no (Below.refl _ _)
        | false =>
          by_cases e3 : dest.length = 0
          · have f3 : ((dest.length : Int) == 0) = true := by rw [e3]; rfl
            clear e3
            go_wp2_with fail
            refine bodyPost_ret (six_results _ (by kernel_rfl) _ _ _) rfl ?_
            exact MdPost.no (Below.refl _ _)
          · have f3 : ((dest.length : Int) == 0) = false := by rw [beq_eq_false_iff_ne]; omega
            have HD := Lib.hid e3
            clear e3
            have b22 : w.ownsRow w.heap.size 9 1 (.slice none 0 0) 0 [] := World.ownsRow_nil _ _ _ _
            go_upto_region 4 with (fail)
            rename_i K9 hK9 K8 hK8
            have HK9 := Lib.hid hK9
            clear hK9
            go_upto_region 5 with (at_builtin; first | (refine wpList_app_strs rfl _ (.tmp 69) rfl w.heap.size _ 0 [] rfl b22 A3 ss.length d3 ss rfl HC.out.2.2.1 rfl HC.out.1.l3 (by omega) (Nat.le_refl _) ss.length (Nat.zero_add _) ?_; intro A5 c5 w5 hown5 hg5; have HB5 := Lib.hid (show Below w.heap.size w w5 from (Below.refl _ w).grown hg5 (Nat.le_refl _) (fun k hk => by cases hk)); clear hg5) | (refine wpList_app_strs rfl (.tmp 70) (.tmp 71) rfl w.heap.size _ _ _ rfl hown5 A4 m4 d4 ts rfl HL4.out.1 HL4.out.2.1 (HL4.out.2.2.below HB5.out (Nat.le_refl _)) (by omega) HB5.out.size (ss.length + m4) rfl ?_; intro A6 c6 w6 hown6 hg6; have HB6 := Lib.hid (show Below w.heap.size w w6 from HB5.out.grown hg6 HB5.out.size (fun k hk => (hown5.lt k hk).1)); clear hg6))
            have hall : w6.ownsRow w.heap.size 9 1 (.slice A6 (ss.length + m4) c6) (ss.length + m4) ((ss ++ ts).map sv) := by simpa using hown6
            obtain ⟨A7, c7, e7, _, _, hL7, _⟩ := K.lies_of_own hall
            injection e7 with e7 e8 e9
            subst e7
            subst e9
            clear e8
            have hlen : (ss ++ ts).length = ss.length + m4 := by rw [List.length_append, HL4.out.2.1]
            have hL8 : K.Lies w6 A6 (ss ++ ts).length (svs (ss ++ ts)) := by rw [hlen]; exact hL7
            have hsz : ∀ u ∈ ss ++ ts, u.length ≤ 20 := fun u hu => by
              rcases List.mem_append.1 hu with hu | hu
              · exact HC.out.2.1.s1 u hu
              · exact HC.out.2.1.t1 u hu
            have H8 := Lib.hid (And.intro hL8 (And.intro hsz hlen))
            clear hown5 hown6 hall hL7 hL8 hsz hlen
            go_loopg [12, 13, 14, 15, 16, 17, 74] (ss.length + m4) (fun gk v12 v13 v14 v15 v16 v17 i wv => ∃ j : Nat, gk + j = ss.length + m4 ∧ v12 = .string s1 ∧ v13 = .string ⟨#[]⟩ ∧ v14 = .string ⟨#[]⟩ ∧ v15 = .string ⟨#[]⟩ ∧ v16 = .int .i64 0 ∧ v17 = .bool true ∧ i = .int .i64 j ∧ wv = w6 ∧ Hid (∀ u ∈ (ss ++ ts).take j, MW u))
            case atStart => exact ⟨0, by omega, rfl, rfl, rfl, rfl, rfl, rfl, rfl, rfl, Lib.hid (fun u hu => by simp at hu)⟩
            case round =>
              obtain ⟨j, hj, rfl, rfl, rfl, rfl, rfl, rfl, rfl, rfl, HW⟩ := hrel
              have HGK := Lib.hid hj
              clear hj
              by_cases hlt : j < ss.length + m4
              · have hlt2 : j < (ss ++ ts).length := by rw [H8.out.2.2]; exact hlt
                obtain ⟨ab, ao, tb, rfl, c1, htl, hmem, _⟩ := lies_at H8.out.1 hlt2
                have hsz : tb.size ≤ 20 := by rw [← K.bsize, htl]; exact H8.out.2.1 _ hmem
                have h18 := mapWord_any tb wr (by omega)
                have HT2 := Lib.hid (And.intro htl (take_getD hlt2))
                clear htl hmem hlt2
                go_wp2_with fail
                refine h18.mono ?_
                rintro e w7 ⟨b, rfl, rfl, hb⟩
                clear h18
                cases b with
                | false =>
                  clear hb
                  go_wp2_with fail
                  refine bodyPost_ret (six_results _ (by kernel_rfl) _ _ _) rfl ?_
                  exact MdPost.no HB6.out
                | true =>
                  have HB := Lib.hid (hb rfl)
                  clear hb
                  go_wp2_with fail
                  go_roundg (gk - 1)
                  case measure => have := HGK.out; omega
                  case rel =>
                    refine ⟨j + 1, by have := HGK.out; omega, rfl, rfl, rfl, rfl, rfl, rfl, by go_num, rfl, Lib.hid fun u hu => ?_⟩
                    rw [HT2.out.2] at hu
                    rcases List.mem_append.1 hu with hu | hu
                    · exact HW.out u hu
                    · obtain rfl := List.mem_singleton.1 hu
                      rw [← HT2.out.1]
                      exact HB.out
              · have hall : ∀ u ∈ ss ++ ts, MW u := fun u hu => HW.out u (by rw [List.take_of_length_le (by rw [H8.out.2.2]; omega)]; exact hu)
                have HA := Lib.hid (show (∀ u ∈ ss, MW u) ∧ ∀ u ∈ ts, MW u from ⟨fun u hu => hall u (List.mem_append_left _ hu), fun u hu => hall u (List.mem_append_right _ hu)⟩)
                clear hall
                have HE2 : Hid (ss.length = stars ws) := Lib.hid (HE.out.1.trans HE.out.2.symm)
                go_wp2_with fail
                refine HK9.out _ _ ?_
                rw [show (q : Int) = (ss.length : Int) from by rw [HE.out.1]]
                refine restB_any wr A0 ws.length d0 false A2 dest.length d2 A3 ss.length d3 A4 m4 d4 miss s1 ⟨#[]⟩ ⟨#[]⟩ ⟨#[]⟩ 0 ws dest ss ts (HC.out.1.below HB6.out) HC.out.2.1 rfl rfl rfl HL4.out.2.1.symm rfl rfl rfl rfl HE2.out (fun u hu => (HA.out.1 u hu).1) (fun u hu => (HA.out.2 u hu).1) _ _ ?_ (fun w' hb => MdPost.no (HB6.out.trans (hb.mono HB6.out.size))) (fun w' to subj out k out0 h1 h2 h3 h4 h5 h6 => ⟨true, s1, to, subj, out, k, rfl, HB6.out.trans (h1.mono HB6.out.size), fun _ =>
                  ⟨HM.out.1, HM.out.2.2, HM.out.2.1, HE2.out, HA.out.1, HA.out.2, ⟨fun h => (by cases h), fun h => absurd HT.out h⟩, fun e => HD.out (by rw [e]; rfl), h2, h3, h4, h5, fun hk => ⟨out0, h6 hk⟩⟩⟩)
                refine back10 ?_
                kernel_rfl
    · have f1 : ((ss.length : Int) != (q : Int)) = true := by rw [bne_iff_ne]; omega
      have HE := Lib.hid e1
      have HQ := Lib.hid hq
      rw [hq]
      clear e1 hq
      go_wp2_with fail
      refine bodyPost_ret (six_results _ (by kernel_rfl) _ _ _) rfl ?_
      exact MdPost.no (Below.refl _ _)
end Go.Proofs.YtocfcajafkkhdaaDoor
