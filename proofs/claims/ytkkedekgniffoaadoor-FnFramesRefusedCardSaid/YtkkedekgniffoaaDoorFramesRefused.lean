/-
  FnFramesRefused holds: a frame that may not stand where it stands is refused; and one without a mask. For every frames and cuts that the row lets in (no condition of ours).
-/
import Derived.Test.YtkkedekgniffoaaDoorAw
import Derived.Test.YtkkedekgniffoaaDoorLd
import Derived.Test.YtkkedekgniffoaaDoorWg
import Derived.Test.YtkkedekgniffoaaDoorUk
import Derived.Test.YtkkedekgniffoaaDoorCards
import Derived.Test.YtkkedekgniffoaaDoorTie
import Derived.Deep.DeepHandedRow
import Derived.Deep.DeepWitnessRowRef
import Derived.LaidMore
import Derived.LaidHandle
import Derived.Lay
namespace Go.Proofs.YtkkedekgniffoaaDoor.framesRefused
open Go.ChangeShapes Go.WideShapes Go.ChangeAt Go.RowKit
open K (Lies Yes strs)
theorem hE_below {w w' : World} (hE : ∃ te ve, w.cell? ⟨1, 0, none⟩ = some (.iface te ve)) (hb : Below w.heap.size w w') : ∃ te ve, w'.cell? ⟨1, 0, none⟩ = some (.iface te ve) := by
  obtain ⟨te, ve, he⟩ := hE
  exact ⟨te, ve, (hb.cell (p := ⟨1, 0, none⟩) (World.block_lt_of_cell? _ _ he)).trans he⟩
/-- what is refused -/
def RefPost (w : World) (e : Ending) (w' : World) : Prop := ∃ (A : Option Addr) (n cap : Nat), e = .returned (.tuple #[.slice A n cap, .int .i64 0, .bool false]) ∧ Below w.heap.size w w'
theorem refused_frames (A : Option Addr) (n cap : Nat) (ss : List ByteArray) (w : World) (hA : Lies w A n (strs ss)) (hn : ss.length = n) (hn0 : 0 < n) (hc : n ≤ 1000) (hT : Tabs w) (hE : ∃ te ve, w.cell? ⟨1, 0, none⟩ = some (.iface te ve)) (hj : (flatS ss).length ≤ 800000)
    (hr : ∃ d s l, Fr.Reach Fr.start (flatS ss) d s l ∧ Fr.step s l = none ∧ Fr.fin s l = .err) : Calls Tryd.prog 10 #[.slice A n cap] w (RefPost w) := by
  refine (frames_any A n cap ss w hA hn hn0 hc hj hT hE).mono ?_
  rintro e w' ⟨A2, n2, cap2, out, cl, ok, s, l, rfl, h1, h2, h3, h4, h5, h6, h7⟩
  obtain ⟨d, s', l', g1, g2, g3⟩ := hr
  obtain ⟨hd, rfl, rfl⟩ := reach_uniq h5 h6 g1 g2
  rw [g3] at h7
  rcases h7 with ⟨h, _⟩ | ⟨_, rfl, rfl⟩ | ⟨h, _⟩
  · cases h
  · exact ⟨A2, n2, cap2, rfl, h1⟩
  · cases h
theorem bytesB_size (l : List Fa) (h8 : l.length ≤ 8) (h : ∀ f ∈ l, f.data.size ≤ 400) : (bytesB l).size ≤ 4000 := by
  have hk : ∀ k, k ≤ l.length → (bytesB (l.take k)).size ≤ 408 * k := by
    intro k
    induction k with
    | zero => intro _; exact Nat.le_refl _
    | succ k ih =>
      intro hk
      rw [bytesB_step l k (by omega)]
      have h1 := ih (by omega)
      have h2 := written_len (frA l k) (h _ (frA_mem (by omega)))
      rw [ByteArray.size_append]
      omega
  have := hk l.length (Nat.le_refl _)
  rw [List.take_length] at this
  omega
theorem wrong_reach {l : List Fa} (h : WrongP l) (hs : ∀ f ∈ l, f.data.size ≤ 400) : ∃ d s r, Fr.Reach Fr.start (bytesB l).data.toList d s r ∧ Fr.step s r = none ∧ Fr.fin s r = .err := by
  obtain ⟨init, f, rfl, h1, h2, h3⟩ := h
  have e : (init.map Fa.pr).map (·.1) = init.map Fa.f0 := by rw [List.map_map]; rfl
  have hl : ∀ x ∈ init ++ [f], x.data.data.toList.length < 65536 := fun x hx => by
    have := hs x hx
    rw [K.bsize]; omega
  have h := Fr.go_wrong (init.map Fa.pr) f.f0 f.mask (by rw [e]; exact h1) (fun x hx => by
    obtain ⟨y, hy, rfl⟩ := List.mem_map.1 hx
    exact h2 y hy) (fun x hx => by
    obtain ⟨y, hy, rfl⟩ := List.mem_map.1 hx
    exact hl y (List.mem_append_left _ hy)) (hl f (by simp)) (by rw [e]; exact h3)
  have e2 : (bytesB (init ++ [f])).data.toList = Fr.bytesOf (init.map Fa.pr ++ [(f.f0, f.mask)]) := by
    unfold bytesB
    rw [List.map_append]
    rfl
  rw [e2]
  exact h
theorem unm_reach {t : ByteArray} (h : ∃ b0 b1 l, t.data.toList = b0 :: b1 :: l ∧ b1.toNat < 128) : ∃ d s r, Fr.Reach Fr.start t.data.toList d s r ∧ Fr.step s r = none ∧ Fr.fin s r = .err := by
  obtain ⟨b0, b1, l, h1, h2⟩ := h
  rw [h1]
  obtain ⟨a, b⟩ := Fr.go_unmasked b0 b1 l h2
  exact ⟨[], _, _, Fr.Reach.refl _ _, a, b⟩

set_option maxHeartbeats 8000000 in
set_option maxRecDepth 100000 in
theorem law_any (v : Value) (l : List Fa) (A2 : Option Addr) (n2 cap2 : Nat) (zs : List Int) (w : World) (hV : FrsV w v l) (hlen : zs.length = n2) (hn63 : n2 ≤ 9223372036854775807) (hl : Lies w A2 n2 (K.nums .i64 zs)) (hz : ∀ z ∈ zs, -9223372036854775808 ≤ z ∧ z ≤ 9223372036854775807)
    (hT : Tabs w) (hE : ∃ te ve, w.cell? ⟨1, 0, none⟩ = some (.iface te ve)) : Calls Tryd.prog 5 #[v, .slice A2 n2 cap2] w (Yes w) := by
  have HTE := Lib.hid (And.intro hT hE)
  have HV := Lib.hid hV
  have HC := Lib.hid (And.intro hlen (And.intro hl hz))
  have h6 := zzFits17_any v l w hV
  obtain ⟨A, n, cap, rfl, hnc, hc, -, -⟩ := hV
  clear hT hE hlen hl hz
  go_enter Tryd.func5, Tryd.ntmps5
  go_wp2_with fail
  refine h6.mono ?_
  rintro e w1 ⟨b, rfl, hb1, -⟩
  have HB1 := Lib.hid hb1
  clear h6 hb1
  cases b with
  | false =>
    go_wp2_with fail
    go_ret
    exact ⟨rfl, HB1.out⟩
  | true =>
    by_cases hbig : (2147483647 : Int) < (n2 : Int)
    · go_wp2_with fail
      go_ret
      exact ⟨rfl, HB1.out⟩
    · go_wp2_with fail
      refine (bytes_any _ l _ (HV.out.below HB1.out)).mono ?_
      rintro e w2 ⟨s, b, rfl, hb2, hs, -⟩
      have HB2 := Lib.hid (HB1.out.trans (hb2.mono HB1.out.size))
      have HS := Lib.hid hs
      clear hb2 hs
      cases b with
      | false =>
        have h9 := awake_any _ (HTE.out.1.below HB2.out) (hE_below HTE.out.2 HB2.out)
        go_wp2_with fail
        refine h9.mono ?_
        rintro e w8 ⟨rfl, hb8⟩
        have HB8 := Lib.hid (HB2.out.trans (hb8.mono HB2.out.size))
        clear hb8 h9
        go_wp2_with fail
        go_ret
        exact ⟨rfl, HB8.out⟩
      | true =>
        have HS2 := Lib.hid (HS.out rfl)
        by_cases h12 : (12 : Int) < (n2 : Int)
        · skip
          have h9 := awake_any _ (HTE.out.1.below HB2.out) (hE_below HTE.out.2 HB2.out)
          go_wp2_with fail
          refine h9.mono ?_
          rintro e w8 ⟨rfl, hb8⟩
          have HB8 := Lib.hid (HB2.out.trans (hb8.mono HB2.out.size))
          clear hb8 h9
          go_wp2_with fail
          go_ret
          exact ⟨rfl, HB8.out⟩
        · by_cases hn0 : n = 0
          · subst hn0
            have h9 := awake_any _ (HTE.out.1.below HB2.out) (hE_below HTE.out.2 HB2.out)
            go_wp2_with fail
            refine h9.mono ?_
            rintro e w8 ⟨rfl, hb8⟩
            have HB8 := Lib.hid (HB2.out.trans (hb8.mono HB2.out.size))
            clear hb8 h9
            go_wp2_with fail
            go_ret
            exact ⟨rfl, HB8.out⟩
          · have hn0' : ((n : Int) == 0) = false := by simp; omega
            have h12' : decide ((12 : Int) < (n2 : Int)) = false := by simpa using h12
            have h12w := wrong_any _ l w2 (HV.out.below HB2.out) (by have := HS2.out.1; omega)
            go_wp2_with fail
            refine h12w.mono ?_
            rintro e w3 ⟨b, rfl, hb3, hw⟩
            have HB3 := Lib.hid (HB2.out.trans (hb3.mono HB2.out.size))
            have HW := Lib.hid hw
            clear hb3 hw h12w
            have hss : s.size ≤ 4000 := by rw [HS2.out.2.2]; exact bytesB_size l HS2.out.1 HS2.out.2.1
            have hn12 : n2 ≤ 12 := by omega
            cases b with
            | true =>
              have HW2 := Lib.hid (HW.out rfl)
              have hp := pieces_any s zs n2 cap2 A2 w3 HC.out.1 hn12 (by omega) (HC.out.2.1.below HB3.out (Nat.le_refl _)) HC.out.2.2
              go_wp2_with fail
              refine hp.mono ?_
              rintro e w4 ⟨A4, cap4, ss, rfl, hssl, hl4, hfl, hb4⟩
              have hb04 := HB3.out.trans (hb4.mono HB3.out.size)
              have hf := refused_frames A4 (n2 + 1) cap4 ss w4 hl4 hssl (by omega) (by omega) (HTE.out.1.below hb04) (hE_below HTE.out.2 hb04) (by rw [hfl, K.bsize]; omega) (by rw [hfl, HS2.out.2.2]; exact wrong_reach HW2.out HS2.out.2.1)
              have HB4 := Lib.hid hb04
              clear hb04 hl4 hfl hb4 hp hssl
              go_wp2_with fail
              refine hf.mono ?_
              rintro e w5 ⟨A5, n5, cap5, rfl, hb5⟩
              have HB5 := Lib.hid (HB4.out.trans (hb5.mono HB4.out.size))
              clear hb5 hf
              have h9 := awake_any _ (HTE.out.1.below HB5.out) (hE_below HTE.out.2 HB5.out)
              go_wp2_with fail
              refine h9.mono ?_
              rintro e w8 ⟨rfl, hb8⟩
              have HB8 := Lib.hid (HB5.out.trans (hb8.mono HB5.out.size))
              clear hb8 h9
              go_wp2_with fail
              go_ret
              exact ⟨rfl, HB8.out⟩
            | false =>
              by_cases hn1 : n = 1
              · subst hn1
                have h8 := right_any _ l w3 (HV.out.below HB3.out) (by have := HS2.out.1; omega)
                go_wp2_with fail
                refine h8.mono ?_
                rintro e w4 ⟨b, rfl, hb4, -⟩
                have HB4 := Lib.hid (HB3.out.trans (hb4.mono HB3.out.size))
                clear hb4 h8
                cases b with
                | false =>
                  have h9 := awake_any _ (HTE.out.1.below HB4.out) (hE_below HTE.out.2 HB4.out)
                  go_wp2_with fail
                  refine h9.mono ?_
                  rintro e w8 ⟨rfl, hb8⟩
                  have HB8 := Lib.hid (HB4.out.trans (hb8.mono HB4.out.size))
                  clear hb8 h9
                  go_wp2_with fail
                  go_ret
                  exact ⟨rfl, HB8.out⟩
                | true =>
                  obtain ⟨A', n', cap', hA', _, _, hAt, hok⟩ := HV.out.below HB4.out
                  cases hA'
                  obtain ⟨ab, ao, rfl, hab, hcs⟩ := hAt.2 (by omega)
                  have c0 := (hcs 0 (by omega)).1
                  have c1 := (hcs 0 (by omega)).2.1
                  have c2 := (hcs 0 (by omega)).2.2.1
                  have c3 := (hcs 0 (by omega)).2.2.2
                  simp only [Nat.zero_mul, Nat.add_zero] at c0 c1 c2 c3
                  have hmem := frA_mem (l := l) (j := 0) (by have := hAt.1; omega)
                  have h14 := unmasked_any (frA l 0) w4 (hok _ hmem) (HS2.out.2.1 _ hmem)
                  unfold Fa.v at h14
                  clear hcs hok hAt hmem
                  generalize frA l 0 = a at c0 c1 c2 c3 h14
                  obtain ⟨op, fin, mk, t⟩ := a
                  simp only at c0 c1 c2 c3 h14
                  go_wp2_with fail
                  refine h14.mono ?_
                  rintro e w5 ⟨u, rfl, hb5, hus, hu⟩
                  have HB5 := Lib.hid (HB4.out.trans (hb5.mono HB4.out.size))
                  have HU := Lib.hid hu
                  have hp := pieces_any u zs n2 cap2 A2 w5 HC.out.1 hn12 (by omega) (HC.out.2.1.below HB5.out (Nat.le_refl _)) HC.out.2.2
                  clear hb5 hu h14 c0 c1 c2 c3
                  go_wp2_with fail
                  refine hp.mono ?_
                  rintro e w6 ⟨A4, cap4, ss, rfl, hssl, hl4, hfl, hb4⟩
                  have hb06 := HB5.out.trans (hb4.mono HB5.out.size)
                  have hf := refused_frames A4 (n2 + 1) cap4 ss w6 hl4 hssl (by omega) (by omega) (HTE.out.1.below hb06) (hE_below HTE.out.2 hb06) (by rw [hfl, K.bsize]; omega) (by rw [hfl]; exact unm_reach HU.out)
                  have HB6 := Lib.hid hb06
                  clear hb06 hl4 hfl hb4 hp hssl
                  go_wp2_with fail
                  refine hf.mono ?_
                  rintro e w7 ⟨A5, n5, cap5, rfl, hb5⟩
                  have HB7 := Lib.hid (HB6.out.trans (hb5.mono HB6.out.size))
                  clear hb5 hf
                  have h9 := awake_any _ (HTE.out.1.below HB7.out) (hE_below HTE.out.2 HB7.out)
                  go_wp2_with fail
                  refine h9.mono ?_
                  rintro e w8 ⟨rfl, hb8⟩
                  have HB8 := Lib.hid (HB7.out.trans (hb8.mono HB7.out.size))
                  clear hb8 h9
                  go_wp2_with fail
                  go_ret
                  exact ⟨rfl, HB8.out⟩
              · have hn1' : ¬ ((n : Int) = 1) := by omega
                have h9 := awake_any _ (HTE.out.1.below HB3.out) (hE_below HTE.out.2 HB3.out)
                go_wp2_with fail
                refine h9.mono ?_
                rintro e w8 ⟨rfl, hb8⟩
                have HB8 := Lib.hid (HB3.out.trans (hb8.mono HB3.out.size))
                clear hb8 h9
                go_wp2_with fail
                go_ret
                exact ⟨rfl, HB8.out⟩

theorem own : ownKnob Tryd.prog.godebug = none := by kernel_rfl
theorem laidOut : laidOutB Tryd.prog = true := by kernel_rfl
/-- what the row's list gives: the tables, and io.EOF is not nil -/
theorem facts {W : World} (h : laidMetH Tryd.prog Rows.fnFramesRefusedRow.laid W) : Tabs W ∧ ∃ te ve, W.cell? ⟨1, 0, none⟩ = some (.iface te ve) := by
  rw [MakeChecks.laidMetH_plain _ _ _ (by kernel_rfl)] at h
  exact laid_facts h
theorem door_met (os : Os) (args : Array Value) : laidMetH Tryd.prog Rows.fnFramesRefusedRow.laid ((World.laidAll Tryd.prog os Rows.fnFramesRefusedRow.laid).forCall (fun _ _ => 0) ⟨#[], args, []⟩).memory := by
  rw [MakeChecks.laidMetH_plain _ _ _ (by kernel_rfl)]
  exact laidMet_laidAll _ (by kernel_rfl) (by kernel_rfl)
set_option maxRecDepth 100000 in
theorem reads (os : Os) {H : Type} (enc : TypeId × Value → H) : ∃ places, DataW.whole enc Tryd.prog ((World.laidAll Tryd.prog os Rows.fnFramesRefusedRow.laid).forCall (fun _ _ => 0) ⟨#[], #[.slice none 0 0, .slice none 0 0], []⟩).memory Tryd.f5.params.toList Rows.fnFramesRefusedSpec.vars false (#[.slice none 0 0, .slice none 0 0] : Array Value).toList 8 = some ([.nil, .nil], [], places) :=
  ⟨[], by kernel_rfl⟩

set_option maxRecDepth 100000 in
theorem contract (H : Type) (enc : TypeId × Value → H) (W : World) (args : Array Value) (ds gs : List (DataW H)) (before : List MemPlace)
    (hval : ∀ (j : Nat) t v, Tryd.f5.params[j]? = some t → args[j]? = some v → Value.okWide Tryd.prog W .any 0 t v)
    (hW : DataW.Whole enc Tryd.prog Tryd.f5.params.toList Rows.fnFramesRefusedSpec.vars false W args.toList ds gs before) (hL : laidMetH Tryd.prog Rows.fnFramesRefusedRow.laid W) :
    Calls Tryd.prog 5 args W fun e W' => ∃ v, e = .returned v ∧ Rows.fnFramesRefusedSpec.post enc Tryd.prog Tryd.f5 false true false false W args v W' := by
  have hW' := hW
  obtain ⟨p, q, hA0, hV, rfl, hfz, hnd⟩ := hW
  have hA : DataW.TrodAll enc Tryd.prog W 0 (fun _ => true) true Tryd.f5.params.toList args.toList ds p := hA0
  rw [Tryd.params5] at hA hval
  obtain ⟨v0, vs0, d0, ds0, p0, q0, hargs, rfl, rfl, h0, r0⟩ := trodAll_cons hA
  obtain ⟨v1, vs1, d1, ds1, p1, q1, rfl, rfl, rfl, h1, r1⟩ := trodAll_cons r0
  obtain ⟨rfl, rfl, rfl⟩ := trodAll_nil r1
  obtain rfl : args = #[v0, v1] := by cases args; simp_all
  obtain ⟨rfl, rfl⟩ := trodVars_none hV
  obtain ⟨l, hl⟩ := open_frames Tryd.underlying22 Tryd.underlying29 rfl rfl rfl rfl Tryd.underlying5 Tryd.underlying4 Tryd.underlying23 Tryd.underlying9 (by kernel_rfl) (by kernel_rfl) (fun _ => rfl) (hval 0 22 v0 rfl rfl) h0
  obtain ⟨A, n, cap, zs, rfl, hlen, hmax, hls, hwf, _⟩ := K.open_nums Tryd.underlying36 Tryd.underlying3 (by kernel_rfl) (hval 1 36 v1 rfl rfl) h1
  have hz : ∀ z ∈ zs, -9223372036854775808 ≤ z ∧ z ≤ 9223372036854775807 := fun z hz => by
    have := hwf z hz
    simpa [Lit.wf, IntKind.min, IntKind.max, IntKind.signed, IntKind.bits] using this
  have hF := facts hL
  unfold maxLen at hmax
  refine (law_any _ l A n cap zs W hl hlen (by omega) hls hz hF.1 hF.2).mono fun e W' ⟨hE, hg⟩ => ?_
  subst hE
  exact ⟨_, rfl, K.post_law (tb := 4) laidOut Tryd.underlying4 rfl (by kernel_rfl) rfl rfl (fun W => ok_one (by kernel_rfl) rfl (okWide_bool_mk Tryd.underlying4 _)) hW' hg⟩

set_option maxRecDepth 100000 in
theorem lifted (os : Os) (started : os.Started) (H : Type) (enc : TypeId × Value → H) (F : Stop.Interp) :
    ReturnsInHanded {} Tryd.checked os 5 .any ((OpenSpec.ofChange Rows.fnFramesRefusedSpec).preRow enc Tryd.prog Tryd.f5 Rows.fnFramesRefusedRow.domain false Rows.fnFramesRefusedRow.laid) (((OpenSpec.ofChange Rows.fnFramesRefusedSpec).at F).post enc Tryd.prog Tryd.f5 false true false false) := by
  obtain ⟨places, hx⟩ := reads os enc
  refine returnsInHanded_of_row (C := Tryd.checked) (s := OpenSpec.ofChange Rows.fnFramesRefusedSpec) own started (by kernel_rfl) Tryd.func5
    (witness_row_atRef (enc := enc) (C := Tryd.checked) false (World.laidAll Tryd.prog os Rows.fnFramesRefusedRow.laid) #[.slice none 0 0, .slice none 0 0] (World.laidAll_os _ _ _) (by kernel_rfl) (by kernel_rfl) (by kernel_rfl)
      (OpenSpec.preRow_of_cond 8 hx (by kernel_rfl) (fun k hk => by cases hk) (by kernel_rfl) (door_met os _))) ?_
  intro W base args ds gs before hval hW _ hcond _ hL _ _
  exact contract H enc W args ds gs before hval hW hL

theorem said : Rows.FnFramesRefusedSaid :=
  OpenClaim.holds_of_cond 5 Tryd.f5 rfl rfl rfl rfl rfl rfl rfl ⟨rfl, rfl, rfl, rfl, rfl⟩ rfl rfl rfl rfl rfl (by kernel_rfl) Tryd.func5 (by kernel_rfl)
    (of_decide_eq_true (by kernel_rfl)) (by unfold Func.isWrapper; first | (rw [if_pos (by decide +kernel)]; kernel_rfl) | (rw [if_neg (by decide +kernel)]; exact ⟨rfl, rfl⟩))
    (fun os started H enc _ F => by rw [OpenClaim.pre_eq_preRow]; exact lifted os started H enc F)

theorem plain (f : FuncId) (fn : Func) (hf : Tryd.pinned.checked.prog.funcNamed "pub-streamkeep/laws.FnFramesRefused" = some f) (hfn : Tryd.pinned.checked.prog.funcs[f]? = some fn) :
    false = Tryd.pinned.checked.prog.looks [] ∧ ∀ (j : Nat) t, fn.params[j]? = some t → Tryd.pinned.checked.prog.wantsStandIn t = false := by
  obtain rfl : f = 5 := Option.some.inj ((show Tryd.prog.funcNamed "pub-streamkeep/laws.FnFramesRefused" = some 5 by kernel_rfl).symm.trans hf) |>.symm
  obtain rfl : fn = Tryd.f5 := (Option.some.inj (Tryd.func5.symm.trans hfn)).symm
  refine ⟨by kernel_rfl, fun j t ht => ?_⟩
  rw [Tryd.params5] at ht
  have hm : t ∈ [22, 36] := by simpa using Array.mem_of_getElem? ht
  have hall : ([22, 36].all fun u => !Tryd.prog.wantsStandIn u) = true := by kernel_rfl
  exact (show Tryd.prog.wantsStandIn t = false by simpa using List.all_eq_true.1 hall t hm)

/-- THE CARD. -/
theorem card : Rows.FnFramesRefusedCardSaid :=
  Claim7.holds_tied_plain_at .later [] _ _ _ _ said (fun _ h => by cases h) (by kernel_rfl) (fun _ h => by cases h) fnFramesRefused_row_tie rfl ⟨rfl, rfl⟩ (by kernel_rfl) rfl plain (by kernel_rfl)

end Go.Proofs.YtkkedekgniffoaaDoor.framesRefused
