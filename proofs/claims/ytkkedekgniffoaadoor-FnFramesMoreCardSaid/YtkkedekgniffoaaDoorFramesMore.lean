/-
  FnFramesMore holds: what is read of a beginning is the beginning of what is read of all. For every two texts that the row lets in (no condition of ours).
-/
import Derived.Test.YtkkedekgniffoaaDoorAw
import Derived.Test.YtkkedekgniffoaaDoorLd
import Derived.Test.YtkkedekgniffoaaDoorCards
import Derived.Test.YtkkedekgniffoaaDoorTie
import Derived.Deep.DeepHandedRow
import Derived.Deep.DeepWitnessRowRef
import Derived.LaidMore
import Derived.LaidHandle
import Derived.Lay
namespace Go.Proofs.YtkkedekgniffoaaDoor.framesMore
open Go.ChangeShapes Go.WideShapes Go.ChangeAt Go.RowKit
open Go.ChangeMaps (open_string)
open K (Lies Yes strs)

theorem hE_below {w w' : World} (hE : ∃ te ve, w.cell? ⟨1, 0, none⟩ = some (.iface te ve)) (hb : Below w.heap.size w w') : ∃ te ve, w'.cell? ⟨1, 0, none⟩ = some (.iface te ve) := by
  obtain ⟨te, ve, he⟩ := hE
  exact ⟨te, ve, (hb.cell (p := ⟨1, 0, none⟩) (World.block_lt_of_cell? _ _ he)).trans he⟩
theorem two_flat (s t : ByteArray) : ([s, t].flatMap fun t => t.data.toList) = s.data.toList ++ t.data.toList := by simp
theorem join_size {ss : List ByteArray} : (joinB ss).size = (ss.flatMap fun t => t.data.toList).length := by rw [← K.bsize, joinB_data]
theorem more_extract {a b : List ByteArray} {d : List UInt8} (h : (b.flatMap fun t => t.data.toList) = (a.flatMap fun t => t.data.toList) ++ d) : (joinB b).extract 0 (joinB a).size = joinB a ∧ (joinB a).size ≤ (joinB b).size := by
  have h1 : (joinB b).data.toList = (joinB a).data.toList ++ d := h
  constructor
  · apply ba_of
    rw [ByteArray.data_extract, Array.toList_extract, h1]
    have e : (joinB a).size = (joinB a).data.toList.length := (K.bsize _).symm
    rw [e]
    simp
  · have := congrArg List.length h1
    rw [List.length_append, K.bsize, K.bsize] at this
    omega

set_option maxHeartbeats 4000000 in
set_option maxRecDepth 100000 in
theorem law_any (s t : ByteArray) (w : World) (hs63 : s.size ≤ 9223372036854775807) (ht63 : t.size ≤ 9223372036854775807) (hT : Tabs w) (hE : ∃ te ve, w.cell? ⟨1, 0, none⟩ = some (.iface te ve)) : Calls Tryd.prog 4 #[.string s, .string t] w (Yes w) := by
  by_cases h1 : s.size ≤ 2147483647 ∧ t.size ≤ 2147483647
  · obtain ⟨h1s, h1t⟩ := h1
    by_cases h2 : s.size + t.size ≤ 600
    · have hb0 : Below w.heap.size w (w.alloc (.cells #[.string s] 9)) := (Below.refl _ w).alloc (Nat.le_refl _) _
      have hf1 := frames_any _ 1 1 [s] _ (K.lies_one w s 9) rfl (by omega) (by omega) (by rw [one_flat, K.bsize]; omega) (hT.below hb0) (hE_below hE hb0)
      have HB0 := Lib.hid hb0
      have HTE := Lib.hid (And.intro hT hE)
      clear hb0 hT hE
      go_enter Tryd.func4, Tryd.ntmps4
      go_wp2_with fail
      refine hf1.mono ?_
      rintro e w1 ⟨A1, n1, cap1, out1, cl1, ok1, s1, l1, rfl, hb1, hl1, hlen1, hn1, hr1, he1, -⟩
      have hbw1 : Below w.heap.size w w1 := HB0.out.trans (hb1.mono (by simp))
      have hb2 : Below w1.heap.size w1 (w1.alloc (.cells #[.string s, .string t] 9)) := (Below.refl _ w1).alloc (Nat.le_refl _) _
      have hf2 := frames_any _ 2 2 [s, t] _ (K.lies_two w1 s t 9) rfl (by omega) (by omega) (by rw [two_flat, List.length_append, K.bsize, K.bsize]; omega) ((HTE.out.1.below hbw1).below hb2) (hE_below (hE_below HTE.out.2 hbw1) hb2)
      have H1 := Lib.hid (And.intro hbw1 (And.intro hl1 (And.intro hlen1 (And.intro hr1 he1))))
      have HB2 := Lib.hid hb2
      clear hbw1 hl1 hlen1 hr1 he1 hb1 hb2 hf1
      go_wp2_with fail
      refine hf2.mono ?_
      rintro e w2 ⟨A2, n2, cap2, out2, cl2, ok2, s2, l2, rfl, hb3, hl2, hlen2, hn2, hr2, he2, -⟩
      have hb13 : Below w1.heap.size w1 w2 := HB2.out.trans (hb3.mono (by simp))
      have hr1 := H1.out.2.2.2.1
      rw [one_flat] at hr1
      rw [two_flat] at hr2
      have hr1a := hr1.append t.data.toList
      obtain ⟨d3, _, hd⟩ := hr1a.rest hr2 he2
      obtain ⟨hx, hxl⟩ := more_extract hd
      have hsz1 : (joinB out1).size ≤ 600 := by
        have := reach_len hr1
        rw [join_size]
        rw [K.bsize] at this
        omega
      have hsz2 : (joinB out2).size ≤ 600 := by
        have := reach_len hr2
        rw [join_size]
        rw [List.length_append, K.bsize, K.bsize] at this
        omega
      have hj1 := joined_any A1 n1 cap1 out1 w2 (H1.out.2.1.below hb13 (Nat.le_refl _)) H1.out.2.2.1 (by omega) (by omega)
      have hj2 := joined_any A2 n2 cap2 out2 w2 hl2 hlen2 (by omega) (by omega)
      unfold JoinPost at hj1 hj2
      have hbw2 : Below w.heap.size w w2 := H1.out.1.trans (hb13.mono H1.out.1.size)
      have H2 := Lib.hid hbw2
      clear hb13 hb3 hl2 hlen2 hr1 hr2 he2 hr1a hd hbw2 hf2
      generalize joinB out1 = x at hx hxl hsz1 hj1
      generalize joinB out2 = y at hx hxl hsz2 hj2
      go_wp2_with fail
      refine hj1.mono ?_
      rintro e w3 ⟨rfl, rfl⟩
      go_wp2_with fail
      refine hj2.mono ?_
      rintro e w3 ⟨rfl, rfl⟩
      have h9 := awake_any _ (HTE.out.1.below H2.out) (hE_below HTE.out.2 H2.out)
      clear hj1 hj2
      go_wp2_with fail
      refine h9.mono ?_
      rintro e w4 ⟨rfl, hb4⟩
      have HB4 := Lib.hid (H2.out.trans (hb4.mono H2.out.size))
      clear hb4 h9
      go_wp2_with fail
      go_ret
      exact ⟨rfl, HB4.out⟩
    · have h9 := awake_any w hT hE
      clear hT hE
      go_enter Tryd.func4, Tryd.ntmps4
      go_wp2_with fail
      refine h9.mono ?_
      rintro e w1 ⟨rfl, hb⟩
      have HB := Lib.hid hb
      clear hb h9
      go_wp2_with fail
      go_ret
      exact ⟨rfl, HB.out⟩
  · clear hT hE
    by_cases h3 : s.size ≤ 2147483647
    · have h4 : ¬ (t.size ≤ 2147483647) := fun h => h1 ⟨h3, h⟩
      clear h1
      go_enter Tryd.func4, Tryd.ntmps4
      go_wp2_with fail
      go_ret
      exact ⟨rfl, Below.refl _ _⟩
    · clear h1
      go_enter Tryd.func4, Tryd.ntmps4
      go_wp2_with fail
      go_ret
      exact ⟨rfl, Below.refl _ _⟩

theorem own : ownKnob Tryd.prog.godebug = none := by kernel_rfl
theorem laidOut : laidOutB Tryd.prog = true := by kernel_rfl
/-- what the row's list gives: the tables, and io.EOF is not nil -/
theorem facts {W : World} (h : laidMetH Tryd.prog Rows.fnFramesMoreRow.laid W) : Tabs W ∧ ∃ te ve, W.cell? ⟨1, 0, none⟩ = some (.iface te ve) := by
  rw [MakeChecks.laidMetH_plain _ _ _ (by kernel_rfl)] at h
  exact laid_facts h
theorem door_met (os : Os) (args : Array Value) : laidMetH Tryd.prog Rows.fnFramesMoreRow.laid ((World.laidAll Tryd.prog os Rows.fnFramesMoreRow.laid).forCall (fun _ _ => 0) ⟨#[], args, []⟩).memory := by
  rw [MakeChecks.laidMetH_plain _ _ _ (by kernel_rfl)]
  exact laidMet_laidAll _ (by kernel_rfl) (by kernel_rfl)
set_option maxRecDepth 100000 in
theorem reads (os : Os) {H : Type} (enc : TypeId × Value → H) : ∃ places, DataW.whole enc Tryd.prog ((World.laidAll Tryd.prog os Rows.fnFramesMoreRow.laid).forCall (fun _ _ => 0) ⟨#[], #[.string .empty, .string .empty], []⟩).memory Tryd.f4.params.toList Rows.fnFramesMoreSpec.vars false (#[.string .empty, .string .empty] : Array Value).toList 8 = some ([.lit (.string []), .lit (.string [])], [], places) :=
  ⟨[], by kernel_rfl⟩

set_option maxRecDepth 100000 in
theorem contract (H : Type) (enc : TypeId × Value → H) (W : World) (args : Array Value) (ds gs : List (DataW H)) (before : List MemPlace)
    (hval : ∀ (j : Nat) t v, Tryd.f4.params[j]? = some t → args[j]? = some v → Value.okWide Tryd.prog W .any 0 t v)
    (hW : DataW.Whole enc Tryd.prog Tryd.f4.params.toList Rows.fnFramesMoreSpec.vars false W args.toList ds gs before) (hL : laidMetH Tryd.prog Rows.fnFramesMoreRow.laid W) :
    Calls Tryd.prog 4 args W fun e W' => ∃ v, e = .returned v ∧ Rows.fnFramesMoreSpec.post enc Tryd.prog Tryd.f4 false true false false W args v W' := by
  have hW' := hW
  obtain ⟨p, q, hA0, hV, rfl, hfz, hnd⟩ := hW
  have hA : DataW.TrodAll enc Tryd.prog W 0 (fun _ => true) true Tryd.f4.params.toList args.toList ds p := hA0
  rw [Tryd.params4] at hA hval
  obtain ⟨v0, vs0, d0, ds0, p0, q0, hargs, rfl, rfl, h0, r0⟩ := trodAll_cons hA
  obtain ⟨v1, vs1, d1, ds1, p1, q1, rfl, rfl, rfl, h1, r1⟩ := trodAll_cons r0
  obtain ⟨rfl, rfl, rfl⟩ := trodAll_nil r1
  obtain rfl : args = #[v0, v1] := by cases args; simp_all
  obtain ⟨rfl, rfl⟩ := trodVars_none hV
  obtain ⟨s, rfl, rfl, rfl, hs⟩ := open_string Tryd.underlying9 (hval 0 9 v0 rfl rfl) h0
  obtain ⟨t, rfl, rfl, rfl, ht⟩ := open_string Tryd.underlying9 (hval 1 9 v1 rfl rfl) h1
  have hF := facts hL
  unfold maxLen at hs ht
  refine (law_any s t W (by omega) (by omega) hF.1 hF.2).mono fun e W' ⟨hE, hg⟩ => ?_
  subst hE
  exact ⟨_, rfl, K.post_law (tb := 4) laidOut Tryd.underlying4 rfl (by kernel_rfl) rfl rfl (fun W => ok_one (by kernel_rfl) rfl (okWide_bool_mk Tryd.underlying4 _)) hW' hg⟩

set_option maxRecDepth 100000 in
theorem lifted (os : Os) (started : os.Started) (H : Type) (enc : TypeId × Value → H) (F : Stop.Interp) :
    ReturnsInHanded {} Tryd.checked os 4 .any ((OpenSpec.ofChange Rows.fnFramesMoreSpec).preRow enc Tryd.prog Tryd.f4 Rows.fnFramesMoreRow.domain false Rows.fnFramesMoreRow.laid) (((OpenSpec.ofChange Rows.fnFramesMoreSpec).at F).post enc Tryd.prog Tryd.f4 false true false false) := by
  obtain ⟨places, hx⟩ := reads os enc
  refine returnsInHanded_of_row (C := Tryd.checked) (s := OpenSpec.ofChange Rows.fnFramesMoreSpec) own started (by kernel_rfl) Tryd.func4
    (witness_row_atRef (enc := enc) (C := Tryd.checked) false (World.laidAll Tryd.prog os Rows.fnFramesMoreRow.laid) #[.string .empty, .string .empty] (World.laidAll_os _ _ _) (by kernel_rfl) (by kernel_rfl) (by kernel_rfl)
      (OpenSpec.preRow_of_cond 8 hx (by kernel_rfl) (fun k hk => by cases hk) (by kernel_rfl) (door_met os _))) ?_
  intro W base args ds gs before hval hW _ hcond _ hL _ _
  exact contract H enc W args ds gs before hval hW hL

theorem said : Rows.FnFramesMoreSaid :=
  OpenClaim.holds_of_cond 4 Tryd.f4 rfl rfl rfl rfl rfl rfl rfl ⟨rfl, rfl, rfl, rfl, rfl⟩ rfl rfl rfl rfl rfl (by kernel_rfl) Tryd.func4 (by kernel_rfl)
    (of_decide_eq_true (by kernel_rfl)) (by unfold Func.isWrapper; first | (rw [if_pos (by decide +kernel)]; kernel_rfl) | (rw [if_neg (by decide +kernel)]; exact ⟨rfl, rfl⟩))
    (fun os started H enc _ F => by rw [OpenClaim.pre_eq_preRow]; exact lifted os started H enc F)

theorem plain (f : FuncId) (fn : Func) (hf : Tryd.pinned.checked.prog.funcNamed "pub-streamkeep/laws.FnFramesMore" = some f) (hfn : Tryd.pinned.checked.prog.funcs[f]? = some fn) :
    false = Tryd.pinned.checked.prog.looks [] ∧ ∀ (j : Nat) t, fn.params[j]? = some t → Tryd.pinned.checked.prog.wantsStandIn t = false := by
  obtain rfl : f = 4 := Option.some.inj ((show Tryd.prog.funcNamed "pub-streamkeep/laws.FnFramesMore" = some 4 by kernel_rfl).symm.trans hf) |>.symm
  obtain rfl : fn = Tryd.f4 := (Option.some.inj (Tryd.func4.symm.trans hfn)).symm
  refine ⟨by kernel_rfl, fun j t ht => ?_⟩
  rw [Tryd.params4] at ht
  have hm : t ∈ [9, 9] := by simpa using Array.mem_of_getElem? ht
  have hall : ([9, 9].all fun u => !Tryd.prog.wantsStandIn u) = true := by kernel_rfl
  exact (show Tryd.prog.wantsStandIn t = false by simpa using List.all_eq_true.1 hall t hm)

/-- THE CARD. -/
theorem card : Rows.FnFramesMoreCardSaid :=
  Claim7.holds_tied_plain_at .later [] _ _ _ _ said (fun _ h => by cases h) (by kernel_rfl) (fun _ h => by cases h) fnFramesMore_row_tie rfl ⟨rfl, rfl⟩ (by kernel_rfl) rfl plain (by kernel_rfl)

end Go.Proofs.YtkkedekgniffoaaDoor.framesMore
