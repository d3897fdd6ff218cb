/-
  FnTopicApart: different topics have different subjects; a filter without wildcards has the topic's.
-/
import Derived.Test.YtjaodjeommkjgaaDoorAwake
import Derived.Test.YtjaodjeommkjgaaDoorCards
import Derived.Test.YtjaodjeommkjgaaDoorTie
import Derived.Deep.DeepHandedRow
import Derived.Deep.DeepWitnessRowRef
import Derived.LaidMore
import Derived.LaidHandle
import Derived.Lay
namespace Go.Proofs.YtjaodjeommkjgaaDoor.topicApart
open Go.ChangeShapes Go.WideShapes Go.ChangeAt Go.RowKit
open Go.ChangeMaps (open_string)
open K (Lies Yes)

theorem ne_lists {a b : ByteArray} (h : a ≠ b) : (a.toList == b.toList) = false := by
  rw [Lib.toList_data, Lib.toList_data]
  simp only [beq_eq_false_iff_ne, ne_eq]
  exact fun e => h (ba_ext e)

set_option maxHeartbeats 4000000 in
set_option maxRecDepth 100000 in
theorem law_any (a b : ByteArray) (w : World) (ha63 : a.size ≤ 9223372036854775807) (hb63 : b.size ≤ 9223372036854775807) : Calls Tryd.prog 6 #[.string a, .string b] w (Yes w) := by
  by_cases h1 : a.size ≤ 80 ∧ b.size ≤ 80
  · obtain ⟨h1, h2⟩ := h1
    go_enter Tryd.func6, Tryd.ntmps6
    go_wp2_with fail
    refine (plain_any a false w (by omega)).mono ?_
    rintro e w1 ⟨p, rfl, rfl, hp⟩
    cases p with
    | false =>
      clear hp
      go_wp2_with fail
      refine (awake_any w).mono ?_
      rintro e w1 ⟨rfl, hb⟩
      have HB := Lib.hid hb
      clear hb
      go_wp2_with fail
      go_ret
      exact ⟨rfl, HB.out⟩
    | true =>
      have HP := Lib.hid (hp rfl)
      clear hp
      go_wp2_with fail
      refine (plain_any b false w (by omega)).mono ?_
      rintro e w1 ⟨p, rfl, rfl, hp⟩
      cases p with
      | false =>
        clear hp
        go_wp2_with fail
        refine (awake_any w).mono ?_
        rintro e w1 ⟨rfl, hb⟩
        have HB := Lib.hid hb
        clear hb
        go_wp2_with fail
        go_ret
        exact ⟨rfl, HB.out⟩
      | true =>
        have HQ := Lib.hid (hp rfl)
        clear hp
        go_wp2_with fail
        refine (topicToSubject_any a false w HP.out (by omega)).mono ?_
        rintro e w1 ⟨rfl, hb⟩
        have HB1 := Lib.hid hb
        clear hb
        go_wp2_with fail
        refine (topicToSubject_any b false w1 HQ.out (by omega)).mono ?_
        rintro e w2 ⟨rfl, hb⟩
        have HB2 := Lib.hid (HB1.out.trans (hb.mono HB1.out.size))
        clear hb
        go_wp2_with fail
        refine (topicToSubject_any a true w2 (plain_true HP.out) (by omega)).mono ?_
        rintro e w3 ⟨rfl, hb⟩
        have HB3 := Lib.hid (HB2.out.trans (hb.mono HB2.out.size))
        clear hb
        rw [subj_same HP.out]
        have hinj : subj false a = subj false b → a = b := sub_false_inj HP.out HQ.out
        by_cases hab : a = b
        · subst hab
          clear hinj
          generalize subj false a = x
          go_wp2_with fail
          refine (awake_any w3).mono ?_
          rintro e w4 ⟨rfl, hb⟩
          have HB4 := Lib.hid (HB3.out.trans (hb.mono HB3.out.size))
          clear hb
          go_wp2_with fail
          go_ret
          exact ⟨rfl, HB4.out⟩
        · have hxy : subj false a ≠ subj false b := fun e => hab (hinj e)
          clear hinj
          generalize subj false a = x at hxy ⊢
          generalize subj false b = y at hxy ⊢
          have e3 : (a.toList == b.toList) = false := ne_lists hab
          have e4 : (x.toList == y.toList) = false := ne_lists hxy
          go_wp2_with fail
          refine (awake_any w3).mono ?_
          rintro e w4 ⟨rfl, hb⟩
          have HB4 := Lib.hid (HB3.out.trans (hb.mono HB3.out.size))
          clear hb
          go_wp2_with fail
          go_ret
          exact ⟨rfl, HB4.out⟩
  · by_cases h2 : a.size ≤ 2147483647 ∧ b.size ≤ 2147483647
    · obtain ⟨h2, h3⟩ := h2
      have h4 : 80 < a.size ∨ 80 < b.size := by omega
      clear h1
      rcases Nat.lt_or_ge 80 a.size with h5 | h5
      · clear h4
        go_enter Tryd.func6, Tryd.ntmps6
        go_wp2_with fail
        refine (awake_any w).mono ?_
        rintro e w1 ⟨rfl, hb⟩
        have HB := Lib.hid hb
        clear hb
        go_wp2_with fail
        go_ret
        exact ⟨rfl, HB.out⟩
      · have h6 : 80 < b.size := by omega
        clear h4
        go_enter Tryd.func6, Tryd.ntmps6
        go_wp2_with fail
        refine (awake_any w).mono ?_
        rintro e w1 ⟨rfl, hb⟩
        have HB := Lib.hid hb
        clear hb
        go_wp2_with fail
        go_ret
        exact ⟨rfl, HB.out⟩
    · have h4 : 2147483647 < a.size ∨ 2147483647 < b.size := by omega
      clear h1 h2
      rcases Nat.lt_or_ge 2147483647 a.size with h5 | h5
      · clear h4
        go_enter Tryd.func6, Tryd.ntmps6
        go_wp2_with fail
        go_ret
        exact ⟨rfl, Below.refl _ _⟩
      · have h6 : 2147483647 < b.size := by omega
        clear h4
        go_enter Tryd.func6, Tryd.ntmps6
        go_wp2_with fail
        go_ret
        exact ⟨rfl, Below.refl _ _⟩

theorem own : ownKnob Tryd.prog.godebug = none := by kernel_rfl
theorem laidOut : laidOutB Tryd.prog = true := by kernel_rfl

theorem door_met (os : Os) (args : Array Value) : laidMetH Tryd.prog Rows.fnTopicApartRow.laid ((World.laidAll Tryd.prog os Rows.fnTopicApartRow.laid).forCall (fun _ _ => 0) ⟨#[], args, []⟩).memory := by
  rw [MakeChecks.laidMetH_plain _ _ _ (by kernel_rfl)]
  exact laidMet_laidAll _ (by kernel_rfl) (by kernel_rfl)
set_option maxRecDepth 100000 in
theorem reads (os : Os) {H : Type} (enc : TypeId × Value → H) : ∃ places, DataW.whole enc Tryd.prog ((World.laidAll Tryd.prog os Rows.fnTopicApartRow.laid).forCall (fun _ _ => 0) ⟨#[], #[.string .empty, .string .empty], []⟩).memory Tryd.f6.params.toList Rows.fnTopicApartSpec.vars false (#[.string .empty, .string .empty] : Array Value).toList 8 = some ([.lit (.string []), .lit (.string [])], [], places) :=
  ⟨[], by kernel_rfl⟩

set_option maxRecDepth 100000 in
theorem contract (H : Type) (enc : TypeId × Value → H) (W : World) (args : Array Value) (ds gs : List (DataW H)) (before : List MemPlace)
    (hval : ∀ (j : Nat) t v, Tryd.f6.params[j]? = some t → args[j]? = some v → Value.okWide Tryd.prog W .any 0 t v)
    (hW : DataW.Whole enc Tryd.prog Tryd.f6.params.toList Rows.fnTopicApartSpec.vars false W args.toList ds gs before) (_hL : laidMetH Tryd.prog Rows.fnTopicApartRow.laid W) :
    Calls Tryd.prog 6 args W fun e W' => ∃ v, e = .returned v ∧ Rows.fnTopicApartSpec.post enc Tryd.prog Tryd.f6 false true false false W args v W' := by
  have hW' := hW
  obtain ⟨p, q, hA0, hV, rfl, hfz, hnd⟩ := hW
  have hA : DataW.TrodAll enc Tryd.prog W 0 (fun _ => true) true Tryd.f6.params.toList args.toList ds p := hA0
  rw [Tryd.params6] at hA hval
  obtain ⟨v0, vs0, d0, ds0, p0, q0, hargs, rfl, rfl, h0, r0⟩ := trodAll_cons hA
  obtain ⟨v1, vs1, d1, ds1, p1, q1, rfl, rfl, rfl, h1, r1⟩ := trodAll_cons r0
  obtain ⟨rfl, rfl, rfl⟩ := trodAll_nil r1
  obtain rfl : args = #[v0, v1] := by cases args; simp_all
  obtain ⟨rfl, rfl⟩ := trodVars_none hV
  obtain ⟨s, rfl, rfl, rfl, hs⟩ := open_string Tryd.underlying9 (hval 0 9 v0 rfl rfl) h0
  obtain ⟨t, rfl, rfl, rfl, ht⟩ := open_string Tryd.underlying9 (hval 1 9 v1 rfl rfl) h1
  unfold maxLen at hs ht
  refine (law_any s t W (by omega) (by omega)).mono fun e W' ⟨hE, hg⟩ => ?_
  subst hE
  exact ⟨_, rfl, K.post_law (tb := 4) laidOut Tryd.underlying4 rfl (by kernel_rfl) rfl rfl (fun W => ok_one (by kernel_rfl) rfl (okWide_bool_mk Tryd.underlying4 _)) hW' hg⟩

set_option maxRecDepth 100000 in
theorem lifted (os : Os) (started : os.Started) (H : Type) (enc : TypeId × Value → H) (F : Stop.Interp) :
    ReturnsInHanded {} Tryd.checked os 6 .any ((OpenSpec.ofChange Rows.fnTopicApartSpec).preRow enc Tryd.prog Tryd.f6 Rows.fnTopicApartRow.domain false Rows.fnTopicApartRow.laid) (((OpenSpec.ofChange Rows.fnTopicApartSpec).at F).post enc Tryd.prog Tryd.f6 false true false false) := by
  obtain ⟨places, hx⟩ := reads os enc
  refine returnsInHanded_of_row (C := Tryd.checked) (s := OpenSpec.ofChange Rows.fnTopicApartSpec) own started (by kernel_rfl) Tryd.func6
    (witness_row_atRef (enc := enc) (C := Tryd.checked) false (World.laidAll Tryd.prog os Rows.fnTopicApartRow.laid) #[.string .empty, .string .empty] (World.laidAll_os _ _ _) (by kernel_rfl) (by kernel_rfl) (by kernel_rfl)
      (OpenSpec.preRow_of_cond 8 hx (by kernel_rfl) (fun k hk => by cases hk) (by kernel_rfl) (door_met os _))) ?_
  intro W base args ds gs before hval hW _ hcond _ hL _ _
  exact contract H enc W args ds gs before hval hW hL

theorem said : Rows.FnTopicApartSaid :=
  OpenClaim.holds_of_cond 6 Tryd.f6 rfl rfl rfl rfl rfl rfl rfl ⟨rfl, rfl, rfl, rfl, rfl⟩ rfl rfl rfl rfl rfl (by kernel_rfl) Tryd.func6 (by kernel_rfl)
    (of_decide_eq_true (by kernel_rfl)) (by unfold Func.isWrapper; first | (rw [if_pos (by decide +kernel)]; kernel_rfl) | (rw [if_neg (by decide +kernel)]; exact ⟨rfl, rfl⟩))
    (fun os started H enc _ F => by rw [OpenClaim.pre_eq_preRow]; exact lifted os started H enc F)

theorem plain (f : FuncId) (fn : Func) (hf : Tryd.pinned.checked.prog.funcNamed "pub-streamkeep/laws.FnTopicApart" = some f) (hfn : Tryd.pinned.checked.prog.funcs[f]? = some fn) :
    false = Tryd.pinned.checked.prog.looks [] ∧ ∀ (j : Nat) t, fn.params[j]? = some t → Tryd.pinned.checked.prog.wantsStandIn t = false := by
  obtain rfl : f = 6 := Option.some.inj ((show Tryd.prog.funcNamed "pub-streamkeep/laws.FnTopicApart" = some 6 by kernel_rfl).symm.trans hf) |>.symm
  obtain rfl : fn = Tryd.f6 := (Option.some.inj (Tryd.func6.symm.trans hfn)).symm
  refine ⟨by kernel_rfl, fun j t ht => ?_⟩
  rw [Tryd.params6] at ht
  have hm : t ∈ [9, 9] := by simpa using Array.mem_of_getElem? ht
  have hall : ([9, 9].all fun u => !Tryd.prog.wantsStandIn u) = true := by kernel_rfl
  exact (show Tryd.prog.wantsStandIn t = false by simpa using List.all_eq_true.1 hall t hm)

/-- THE CARD. -/
theorem card : Rows.FnTopicApartCardSaid :=
  Claim7.holds_tied_plain_at .later [] _ _ _ _ said (fun _ h => by cases h) (by kernel_rfl) (fun _ h => by cases h) fnTopicApart_row_tie rfl ⟨rfl, rfl⟩ (by kernel_rfl) rfl plain (by kernel_rfl)

end Go.Proofs.YtjaodjeommkjgaaDoor.topicApart
