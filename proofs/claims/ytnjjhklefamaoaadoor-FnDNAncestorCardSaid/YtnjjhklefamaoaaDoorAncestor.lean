/-
  FnDNAncestor holds: a name is another one's ancestor just if that one is one part or more, and then it; ancestors' ancestors are ancestors. For every three names that the row lets in (no condition of ours).
-/
import Derived.Test.YtnjjhklefamaoaaDoorAwake
import Derived.Test.YtnjjhklefamaoaaDoorSpec
import Derived.Test.YtnjjhklefamaoaaDoorCards
import Derived.Test.YtnjjhklefamaoaaDoorTie
import Derived.Deep.DeepHandedRow
import Derived.Deep.DeepWitnessRowRef
import Derived.LaidMore
import Derived.LaidHandle
import Derived.Lay
namespace Go.Proofs.YtnjjhklefamaoaaDoor.ancestor
open Go.ChangeShapes Go.WideShapes Go.ChangeAt Go.RowKit
open K (Yes)
open Dn (Attr Name)

set_option maxHeartbeats 20000000 in
set_option maxRecDepth 100000 in
theorem law_any (v1 v2 v3 : Value) (a b c : Name) (w : World) (ha : NamesV w v1 a) (hb : NamesV w v2 b) (hc : NamesV w v3 c) : Calls Tryd.prog 4 #[v1, v2, v3] w (Yes w) := by
  have HA := Lib.hid ha
  have HBB := Lib.hid hb
  have HC := Lib.hid hc
  obtain ⟨A, n1, cap1, rfl, _, _, hA⟩ := ha
  obtain ⟨A2, n2, cap2, rfl, hmc, _, hB⟩ := hb
  obtain ⟨A3, n3, cap3, rfl, _⟩ := hc
  have HAN := Lib.hid hA
  have HBN := Lib.hid hB
  have HB0 := Lib.hid (Below.refl w.heap.size w)
  clear hA hB
  go_enter Tryd.func4, Tryd.ntmps4
  go_wp2_with fail
  refine (zzFits3_any _ a _ (HA.out.below HB0.out)).mono ?_
  rintro e w1 ⟨b1, rfl, hb, hp⟩
  have HB1 := Lib.hid (HB0.out.trans (hb.mono HB0.out.size))
  clear hb hp
  cases b1 with
  | false =>
    go_wp2_with fail
    go_ret
    exact ⟨rfl, HB1.out⟩

  | true =>
    go_wp2_with fail
    refine (zzFits3_any _ b _ (HBB.out.below HB1.out)).mono ?_
    rintro e w2 ⟨b2, rfl, hb, hp⟩
    have HB2 := Lib.hid (HB1.out.trans (hb.mono HB1.out.size))
    clear hb hp
    cases b2 with
    | false =>
      go_wp2_with fail
      go_ret
      exact ⟨rfl, HB2.out⟩

    | true =>
      go_wp2_with fail
      refine (zzFits3_any _ c _ (HC.out.below HB2.out)).mono ?_
      rintro e w3 ⟨b3, rfl, hb, hp⟩
      have HB3 := Lib.hid (HB2.out.trans (hb.mono HB2.out.size))
      clear hb hp
      cases b3 with
      | false =>
        go_wp2_with fail
        go_ret
        exact ⟨rfl, HB3.out⟩

      | true =>
        go_wp2_with fail
        refine (names_any _ a _ (HA.out.below HB3.out)).mono ?_
        rintro e w4 ⟨b4, rfl, hb, hp⟩
        have HB4 := Lib.hid (HB3.out.trans (hb.mono HB3.out.size))
        have HP4 := Lib.hid hp
        clear hb hp
        cases b4 with
        | false =>
          go_wp2_with fail
          refine (awake_any _).mono ?_
          rintro e w5 ⟨rfl, hb⟩
          have HB5 := Lib.hid (HB4.out.trans (hb.mono HB4.out.size))
          clear hb
          go_wp2_with fail
          go_ret
          exact ⟨rfl, HB5.out⟩

        | true =>
          have NA := Lib.hid (HP4.out (by trivial))
          go_wp2_with fail
          refine (names_any _ b _ (HBB.out.below HB4.out)).mono ?_
          rintro e w6 ⟨b6, rfl, hb, hp⟩
          have HB6 := Lib.hid (HB4.out.trans (hb.mono HB4.out.size))
          have HP6 := Lib.hid hp
          clear hb hp
          cases b6 with
          | false =>
            go_wp2_with fail
            refine (awake_any _).mono ?_
            rintro e w7 ⟨rfl, hb⟩
            have HB7 := Lib.hid (HB6.out.trans (hb.mono HB6.out.size))
            clear hb
            go_wp2_with fail
            go_ret
            exact ⟨rfl, HB7.out⟩

          | true =>
            have NB := Lib.hid (HP6.out (by trivial))
            go_wp2_with fail
            refine (names_any _ c _ (HC.out.below HB6.out)).mono ?_
            rintro e w8 ⟨b8, rfl, hb, hp⟩
            have HB8 := Lib.hid (HB6.out.trans (hb.mono HB6.out.size))
            have HP8 := Lib.hid hp
            clear hb hp
            cases b8 with
            | false =>
              go_wp2_with fail
              refine (awake_any _).mono ?_
              rintro e w9 ⟨rfl, hb⟩
              have HB9 := Lib.hid (HB8.out.trans (hb.mono HB8.out.size))
              clear hb
              go_wp2_with fail
              go_ret
              exact ⟨rfl, HB9.out⟩

            | true =>
              have NC := Lib.hid (HP8.out (by trivial))
              cases hab : Dn.anc a b with
              | false =>
                have HAB := Lib.hid hab
                clear hab
                go_wp2_with fail
                refine (ancestorDN_any _ _ a b _ (HA.out.below HB8.out) (HBB.out.below HB8.out) ⟨NA.out.1, NA.out.2.1⟩ ⟨NB.out.1, NB.out.2.1⟩).mono ?_
                rintro e w10 ⟨rfl, hb⟩
                rw [HAB.out]
                have HB10 := Lib.hid (HB8.out.trans (hb.mono HB8.out.size))
                clear hb
                go_wp2_with fail
                refine (ancSpec_any A A2 n1 n2 cap1 cap2 a b _ (HAN.out.below HB10.out) (HBN.out.below HB10.out) (by have := NA.out.1; have := HAN.out.1; omega) (by have := NB.out.1; have := HBN.out.1; omega) hmc NA.out.2.1 NB.out.2.1).mono ?_
                rintro e w11 ⟨rfl, hb⟩
                rw [← Dn.anc_spec NA.out.2.2, HAB.out]
                have HB11 := Lib.hid (HB10.out.trans (hb.mono HB10.out.size))
                clear hb
                go_wp2_with fail
                refine (ancestorDN_any _ _ a b _ (HA.out.below HB11.out) (HBB.out.below HB11.out) ⟨NA.out.1, NA.out.2.1⟩ ⟨NB.out.1, NB.out.2.1⟩).mono ?_
                rintro e w12 ⟨rfl, hb⟩
                rw [HAB.out]
                have HB12 := Lib.hid (HB11.out.trans (hb.mono HB11.out.size))
                clear hb
                go_wp2_with fail
                refine (ancestorDN_any _ _ a a _ (HA.out.below HB12.out) (HA.out.below HB12.out) ⟨NA.out.1, NA.out.2.1⟩ ⟨NA.out.1, NA.out.2.1⟩).mono ?_
                rintro e w13 ⟨rfl, hb⟩
                rw [Dn.anc_irrefl]
                have HB13 := Lib.hid (HB12.out.trans (hb.mono HB12.out.size))
                clear hb
                go_wp2_with fail
                refine (awake_any _).mono ?_
                rintro e w14 ⟨rfl, hb⟩
                have HB14 := Lib.hid (HB13.out.trans (hb.mono HB13.out.size))
                clear hb
                go_wp2_with fail
                go_ret
                exact ⟨rfl, HB14.out⟩

              | true =>
                have HAB := Lib.hid hab
                clear hab
                go_wp2_with fail
                refine (ancestorDN_any _ _ a b _ (HA.out.below HB8.out) (HBB.out.below HB8.out) ⟨NA.out.1, NA.out.2.1⟩ ⟨NB.out.1, NB.out.2.1⟩).mono ?_
                rintro e w15 ⟨rfl, hb⟩
                rw [HAB.out]
                have HB15 := Lib.hid (HB8.out.trans (hb.mono HB8.out.size))
                clear hb
                go_wp2_with fail
                refine (ancSpec_any A A2 n1 n2 cap1 cap2 a b _ (HAN.out.below HB15.out) (HBN.out.below HB15.out) (by have := NA.out.1; have := HAN.out.1; omega) (by have := NB.out.1; have := HBN.out.1; omega) hmc NA.out.2.1 NB.out.2.1).mono ?_
                rintro e w16 ⟨rfl, hb⟩
                rw [← Dn.anc_spec NA.out.2.2, HAB.out]
                have HB16 := Lib.hid (HB15.out.trans (hb.mono HB15.out.size))
                clear hb
                go_wp2_with fail
                refine (ancestorDN_any _ _ a b _ (HA.out.below HB16.out) (HBB.out.below HB16.out) ⟨NA.out.1, NA.out.2.1⟩ ⟨NB.out.1, NB.out.2.1⟩).mono ?_
                rintro e w17 ⟨rfl, hb⟩
                rw [HAB.out]
                have HB17 := Lib.hid (HB16.out.trans (hb.mono HB16.out.size))
                clear hb
                cases hbc : Dn.anc b c with
                | false =>
                  have HBC := Lib.hid hbc
                  clear hbc
                  go_wp2_with fail
                  refine (ancestorDN_any _ _ b c _ (HBB.out.below HB17.out) (HC.out.below HB17.out) ⟨NB.out.1, NB.out.2.1⟩ ⟨NC.out.1, NC.out.2.1⟩).mono ?_
                  rintro e w18 ⟨rfl, hb⟩
                  rw [HBC.out]
                  have HB18 := Lib.hid (HB17.out.trans (hb.mono HB17.out.size))
                  clear hb
                  go_wp2_with fail
                  refine (ancestorDN_any _ _ a a _ (HA.out.below HB18.out) (HA.out.below HB18.out) ⟨NA.out.1, NA.out.2.1⟩ ⟨NA.out.1, NA.out.2.1⟩).mono ?_
                  rintro e w19 ⟨rfl, hb⟩
                  rw [Dn.anc_irrefl]
                  have HB19 := Lib.hid (HB18.out.trans (hb.mono HB18.out.size))
                  clear hb
                  go_wp2_with fail
                  refine (awake_any _).mono ?_
                  rintro e w20 ⟨rfl, hb⟩
                  have HB20 := Lib.hid (HB19.out.trans (hb.mono HB19.out.size))
                  clear hb
                  go_wp2_with fail
                  go_ret
                  exact ⟨rfl, HB20.out⟩

                | true =>
                  have HBC := Lib.hid hbc
                  clear hbc
                  go_wp2_with fail
                  refine (ancestorDN_any _ _ b c _ (HBB.out.below HB17.out) (HC.out.below HB17.out) ⟨NB.out.1, NB.out.2.1⟩ ⟨NC.out.1, NC.out.2.1⟩).mono ?_
                  rintro e w21 ⟨rfl, hb⟩
                  rw [HBC.out]
                  have HB21 := Lib.hid (HB17.out.trans (hb.mono HB17.out.size))
                  clear hb
                  go_wp2_with fail
                  refine (ancestorDN_any _ _ a c _ (HA.out.below HB21.out) (HC.out.below HB21.out) ⟨NA.out.1, NA.out.2.1⟩ ⟨NC.out.1, NC.out.2.1⟩).mono ?_
                  rintro e w22 ⟨rfl, hb⟩
                  rw [Dn.anc_trans HAB.out HBC.out]
                  have HB22 := Lib.hid (HB21.out.trans (hb.mono HB21.out.size))
                  clear hb
                  go_wp2_with fail
                  refine (ancestorDN_any _ _ a a _ (HA.out.below HB22.out) (HA.out.below HB22.out) ⟨NA.out.1, NA.out.2.1⟩ ⟨NA.out.1, NA.out.2.1⟩).mono ?_
                  rintro e w23 ⟨rfl, hb⟩
                  rw [Dn.anc_irrefl]
                  have HB23 := Lib.hid (HB22.out.trans (hb.mono HB22.out.size))
                  clear hb
                  go_wp2_with fail
                  refine (awake_any _).mono ?_
                  rintro e w24 ⟨rfl, hb⟩
                  have HB24 := Lib.hid (HB23.out.trans (hb.mono HB23.out.size))
                  clear hb
                  go_wp2_with fail
                  go_ret
                  exact ⟨rfl, HB24.out⟩

theorem own : ownKnob Tryd.prog.godebug = none := by kernel_rfl
theorem laidOut : laidOutB Tryd.prog = true := by kernel_rfl

theorem door_met (os : Os) (args : Array Value) : laidMetH Tryd.prog Rows.fnDNAncestorRow.laid ((World.doorLaid Tryd.prog 95 os).forCall (fun _ _ => 0) ⟨#[], args, []⟩).memory := 
  laidMetH_of_parts3 (fuel := 8) (laidMet_of_run' 8 (by kernel_rfl) (by kernel_rfl)) (by kernel_rfl) (by kernel_rfl)
set_option maxRecDepth 100000 in
theorem reads (os : Os) {H : Type} (enc : TypeId × Value → H) : ∃ places, DataW.whole enc Tryd.prog ((World.doorLaid Tryd.prog 95 os).forCall (fun _ _ => 0) ⟨#[], #[.slice none 0 0, .slice none 0 0, .slice none 0 0], []⟩).memory Tryd.f4.params.toList Rows.fnDNAncestorSpec.vars false (#[.slice none 0 0, .slice none 0 0, .slice none 0 0] : Array Value).toList 8 = some ([.nil, .nil, .nil], [], places) :=
  ⟨[], by kernel_rfl⟩

set_option maxRecDepth 100000 in
theorem contract (H : Type) (enc : TypeId × Value → H) (W : World) (args : Array Value) (ds gs : List (DataW H)) (before : List MemPlace)
    (hval : ∀ (j : Nat) t v, Tryd.f4.params[j]? = some t → args[j]? = some v → Value.okWide Tryd.prog W .any 0 t v)
    (hW : DataW.Whole enc Tryd.prog Tryd.f4.params.toList Rows.fnDNAncestorSpec.vars false W args.toList ds gs before) (_hL : laidMetH Tryd.prog Rows.fnDNAncestorRow.laid W) :
    Calls Tryd.prog 4 args W fun e W' => ∃ v, e = .returned v ∧ Rows.fnDNAncestorSpec.post enc Tryd.prog Tryd.f4 false true false false W args v W' := by
  have hW' := hW
  obtain ⟨p, q, hA0, hV, rfl, hfz, hnd⟩ := hW
  have hA : DataW.TrodAll enc Tryd.prog W 0 (fun _ => true) true Tryd.f4.params.toList args.toList ds p := hA0
  rw [Tryd.params4] at hA hval
  obtain ⟨v0, vs0, d0, ds0, p0, q0, hargs, rfl, rfl, h0, r0⟩ := trodAll_cons hA
  obtain ⟨v1, vs1, d1, ds1, p1, q1, rfl, rfl, rfl, h1, r1⟩ := trodAll_cons r0
  obtain ⟨v2, vs2, d2, ds2, p2, q2, rfl, rfl, rfl, h2, r2⟩ := trodAll_cons r1
  obtain ⟨rfl, rfl, rfl⟩ := trodAll_nil r2
  obtain rfl : args = #[v0, v1, v2] := by cases args; simp_all
  obtain ⟨rfl, rfl⟩ := trodVars_none hV
  obtain ⟨a, ha⟩ := open_names Tryd.underlying23 (by kernel_rfl) Tryd.underlying30 Tryd.underlying32 rfl rfl Tryd.underlying9 (by kernel_rfl) (by kernel_rfl) (fun _ => rfl) (hval 0 23 v0 rfl rfl) h0
  obtain ⟨b, hb⟩ := open_names Tryd.underlying23 (by kernel_rfl) Tryd.underlying30 Tryd.underlying32 rfl rfl Tryd.underlying9 (by kernel_rfl) (by kernel_rfl) (fun _ => rfl) (hval 1 23 v1 rfl rfl) h1
  obtain ⟨c, hc⟩ := open_names Tryd.underlying23 (by kernel_rfl) Tryd.underlying30 Tryd.underlying32 rfl rfl Tryd.underlying9 (by kernel_rfl) (by kernel_rfl) (fun _ => rfl) (hval 2 23 v2 rfl rfl) h2
  refine (law_any _ _ _ a b c W ha hb hc).mono fun e W' ⟨hE, hg⟩ => ?_
  subst hE
  exact ⟨_, rfl, K.post_law (tb := 4) laidOut Tryd.underlying4 rfl (by kernel_rfl) rfl rfl (fun W => ok_one (by kernel_rfl) rfl (okWide_bool_mk Tryd.underlying4 _)) hW' hg⟩

set_option maxRecDepth 100000 in
theorem lifted (os : Os) (started : os.Started) (H : Type) (enc : TypeId × Value → H) (F : Stop.Interp) :
    ReturnsInHanded {} Tryd.checked os 4 .any ((OpenSpec.ofChange Rows.fnDNAncestorSpec).preRow enc Tryd.prog Tryd.f4 Rows.fnDNAncestorRow.domain false Rows.fnDNAncestorRow.laid) (((OpenSpec.ofChange Rows.fnDNAncestorSpec).at F).post enc Tryd.prog Tryd.f4 false true false false) := by
  obtain ⟨places, hx⟩ := reads os enc
  refine returnsInHanded_of_row (C := Tryd.checked) (s := OpenSpec.ofChange Rows.fnDNAncestorSpec) own started (by kernel_rfl) Tryd.func4
    (witness_row_atRef (enc := enc) (C := Tryd.checked) false (World.doorLaid Tryd.prog 95 os) #[.slice none 0 0, .slice none 0 0, .slice none 0 0] rfl (by kernel_rfl) (by kernel_rfl) (by kernel_rfl)
      (OpenSpec.preRow_of_cond 8 hx (by kernel_rfl) (fun k hk => by cases hk) (by kernel_rfl) (door_met os _))) ?_
  intro W base args ds gs before hval hW _ hcond _ hL _ _
  exact contract H enc W args ds gs before hval hW hL

theorem said : Rows.FnDNAncestorSaid :=
  OpenClaim.holds_of_cond 4 Tryd.f4 rfl rfl rfl rfl rfl rfl rfl ⟨rfl, rfl, rfl, rfl, rfl⟩ rfl rfl rfl rfl rfl (by kernel_rfl) Tryd.func4 (by kernel_rfl)
    (of_decide_eq_true (by kernel_rfl)) (by unfold Func.isWrapper; first | (rw [if_pos (by decide +kernel)]; kernel_rfl) | (rw [if_neg (by decide +kernel)]; exact ⟨rfl, rfl⟩))
    (fun os started H enc _ F => by rw [OpenClaim.pre_eq_preRow]; exact lifted os started H enc F)

theorem plain (f : FuncId) (fn : Func) (hf : Tryd.pinned.checked.prog.funcNamed "pub-streamkeep/laws.FnDNAncestor" = some f) (hfn : Tryd.pinned.checked.prog.funcs[f]? = some fn) :
    false = Tryd.pinned.checked.prog.looks [] ∧ ∀ (j : Nat) t, fn.params[j]? = some t → Tryd.pinned.checked.prog.wantsStandIn t = false := by
  obtain rfl : f = 4 := Option.some.inj ((show Tryd.prog.funcNamed "pub-streamkeep/laws.FnDNAncestor" = some 4 by kernel_rfl).symm.trans hf) |>.symm
  obtain rfl : fn = Tryd.f4 := (Option.some.inj (Tryd.func4.symm.trans hfn)).symm
  refine ⟨by kernel_rfl, fun j t ht => ?_⟩
  rw [Tryd.params4] at ht
  have hm : t ∈ [23, 23, 23] := by simpa using Array.mem_of_getElem? ht
  have hall : ([23, 23, 23].all fun u => !Tryd.prog.wantsStandIn u) = true := by kernel_rfl
  exact (show Tryd.prog.wantsStandIn t = false by simpa using List.all_eq_true.1 hall t hm)

/-- THE CARD. -/
theorem card : Rows.FnDNAncestorCardSaid :=
  Claim7.holds_tied_plain_at .later [] _ _ _ _ said (fun _ h => by cases h) (by kernel_rfl) (fun _ h => by cases h) fnDNAncestor_row_tie rfl ⟨rfl, rfl⟩ (by kernel_rfl) rfl plain (by kernel_rfl)

end Go.Proofs.YtnjjhklefamaoaaDoor.ancestor
