/-
  FnDNParse holds: what the reference reads, the package reads, and reads it alike. For every text.
-/
import Derived.Test.YtnjjhklefamaoaaDoorSRead
import Derived.Test.YtnjjhklefamaoaaDoorTwin
import Derived.Test.YtnjjhklefamaoaaDoorAwake
import Derived.Test.YtnjjhklefamaoaaDoorCards
import Derived.Test.YtnjjhklefamaoaaDoorTie
import Derived.Deep.DeepHandedRow
import Derived.Deep.DeepWitnessRowRef
import Derived.LaidMore
import Derived.LaidHandle
import Derived.Lay
import Derived.ChangeMaps5
namespace Go.Proofs.YtnjjhklefamaoaaDoor.dnParse
open Go.ChangeShapes Go.WideShapes Go.ChangeAt Go.RowKit
open K (Yes)
open Go.ChangeMaps (open_string)
open Dn (Attr Name)

set_option maxHeartbeats 20000000 in
set_option maxRecDepth 100000 in
theorem law_any (s : ByteArray) (w : World) (hs63 : s.size ≤ 9223372036854775807) : Calls Tryd.prog 3 #[.string s] w (Yes w) := by
  by_cases h1 : s.size ≤ 120
  · go_enter Tryd.func3, Tryd.ntmps3
    go_wp2_with fail
    refine (sread_any s w (by omega)).mono ?_
    rintro e w1 ⟨v, ok, rfl, hb, hok⟩
    have HB := Lib.hid hb
    clear hb
    cases ok with
    | false =>
      clear hok
      go_wp2_with fail
      refine (awake_any _).mono ?_
      rintro e w2 ⟨rfl, hb⟩
      have HB2 := Lib.hid (HB.out.trans (hb.mono HB.out.size))
      clear hb
      go_wp2_with fail
      go_ret
      exact ⟨rfl, HB2.out⟩
    | true =>
      obtain ⟨τ, hr, ht, hN⟩ := hok rfl
      have hT := Dn.final_tight (hr.tight Dn.tight_init)
      have HR := Lib.hid (And.intro hr ht)
      have HN := Lib.hid hN
      have HF := Lib.hid hT
      clear hok hr ht hN hT
      go_wp2_with fail
      refine (read_any s τ _ (by omega) HR.out.1 HR.out.2).mono ?_
      rintro e w2 ⟨v2, rfl, hN2, hb⟩
      have HB2 := Lib.hid (HB.out.trans (hb.mono HB.out.size))
      have HN2 := Lib.hid hN2
      have HN1 := Lib.hid (HN.out.below hb)
      clear hb hN2
      go_wp2_with fail
      refine (twin_any _ _ _ _ HN2.out HN1.out (by have := HF.out.1; omega) (fun x hx => by have := (HF.out.2 x hx).1; omega)).mono ?_
      rintro e w3 ⟨rfl, hb⟩
      have HB3 := Lib.hid (HB2.out.trans (hb.mono HB2.out.size))
      clear hb
      go_wp2_with fail
      refine (awake_any _).mono ?_
      rintro e w4 ⟨rfl, hb⟩
      have HB4 := Lib.hid (HB3.out.trans (hb.mono HB3.out.size))
      clear hb
      go_wp2_with fail
      go_ret
      exact ⟨rfl, HB4.out⟩
  · by_cases h2 : s.size ≤ 2147483647
    · go_enter Tryd.func3, Tryd.ntmps3
      go_wp2_with fail
      refine (awake_any _).mono ?_
      rintro e w2 ⟨rfl, hb⟩
      have HB2 := Lib.hid hb
      clear hb
      go_wp2_with fail
      go_ret
      exact ⟨rfl, HB2.out⟩
    · go_enter Tryd.func3, Tryd.ntmps3
      go_wp2_with fail
      go_ret
      exact ⟨rfl, Below.refl _ _⟩

theorem own : ownKnob Tryd.prog.godebug = none := by kernel_rfl
theorem laidOut : laidOutB Tryd.prog = true := by kernel_rfl

theorem door_met (os : Os) (args : Array Value) : laidMetH Tryd.prog Rows.fnDNParseRow.laid ((World.doorLaid Tryd.prog 95 os).forCall (fun _ _ => 0) ⟨#[], args, []⟩).memory := 
  laidMetH_of_parts3 (fuel := 8) (laidMet_of_run' 8 (by kernel_rfl) (by kernel_rfl)) (by kernel_rfl) (by kernel_rfl)
set_option maxRecDepth 100000 in
theorem reads (os : Os) {H : Type} (enc : TypeId × Value → H) : ∃ places, DataW.whole enc Tryd.prog ((World.doorLaid Tryd.prog 95 os).forCall (fun _ _ => 0) ⟨#[], #[.string .empty], []⟩).memory Tryd.f3.params.toList Rows.fnDNParseSpec.vars false (#[.string .empty] : Array Value).toList 8 = some ([.lit (.string [])], [], places) :=
  ⟨[], by kernel_rfl⟩

set_option maxRecDepth 100000 in
theorem contract (H : Type) (enc : TypeId × Value → H) (W : World) (args : Array Value) (ds gs : List (DataW H)) (before : List MemPlace)
    (hval : ∀ (j : Nat) t v, Tryd.f3.params[j]? = some t → args[j]? = some v → Value.okWide Tryd.prog W .any 0 t v)
    (hW : DataW.Whole enc Tryd.prog Tryd.f3.params.toList Rows.fnDNParseSpec.vars false W args.toList ds gs before) (_hL : laidMetH Tryd.prog Rows.fnDNParseRow.laid W) :
    Calls Tryd.prog 3 args W fun e W' => ∃ v, e = .returned v ∧ Rows.fnDNParseSpec.post enc Tryd.prog Tryd.f3 false true false false W args v W' := by
  have hW' := hW
  obtain ⟨p, q, hA0, hV, rfl, hfz, hnd⟩ := hW
  have hA : DataW.TrodAll enc Tryd.prog W 0 (fun _ => true) true Tryd.f3.params.toList args.toList ds p := hA0
  rw [Tryd.params3] at hA hval
  obtain ⟨v0, vs0, d0, ds0, p0, q0, hargs, rfl, rfl, h0, r0⟩ := trodAll_cons hA
  obtain ⟨rfl, rfl, rfl⟩ := trodAll_nil r0
  obtain rfl : args = #[v0] := by cases args; simp_all
  obtain ⟨rfl, rfl⟩ := trodVars_none hV
  obtain ⟨s, rfl, rfl, rfl, hs⟩ := open_string Tryd.underlying9 (hval 0 9 v0 rfl rfl) h0
  unfold maxLen at hs
  refine (law_any s W (by omega)).mono fun e W' ⟨hE, hg⟩ => ?_
  subst hE
  exact ⟨_, rfl, K.post_law (tb := 4) laidOut Tryd.underlying4 rfl (by kernel_rfl) rfl rfl (fun W => ok_one (by kernel_rfl) rfl (okWide_bool_mk Tryd.underlying4 _)) hW' hg⟩

set_option maxRecDepth 100000 in
theorem lifted (os : Os) (started : os.Started) (H : Type) (enc : TypeId × Value → H) (F : Stop.Interp) :
    ReturnsInHanded {} Tryd.checked os 3 .any ((OpenSpec.ofChange Rows.fnDNParseSpec).preRow enc Tryd.prog Tryd.f3 Rows.fnDNParseRow.domain false Rows.fnDNParseRow.laid) (((OpenSpec.ofChange Rows.fnDNParseSpec).at F).post enc Tryd.prog Tryd.f3 false true false false) := by
  obtain ⟨places, hx⟩ := reads os enc
  refine returnsInHanded_of_row (C := Tryd.checked) (s := OpenSpec.ofChange Rows.fnDNParseSpec) own started (by kernel_rfl) Tryd.func3
    (witness_row_atRef (enc := enc) (C := Tryd.checked) false (World.doorLaid Tryd.prog 95 os) #[.string .empty] rfl (by kernel_rfl) (by kernel_rfl) (by kernel_rfl)
      (OpenSpec.preRow_of_cond 8 hx (by kernel_rfl) (fun k hk => by cases hk) (by kernel_rfl) (door_met os _))) ?_
  intro W base args ds gs before hval hW _ hcond _ hL _ _
  exact contract H enc W args ds gs before hval hW hL

theorem said : Rows.FnDNParseSaid :=
  OpenClaim.holds_of_cond 3 Tryd.f3 rfl rfl rfl rfl rfl rfl rfl ⟨rfl, rfl, rfl, rfl, rfl⟩ rfl rfl rfl rfl rfl (by kernel_rfl) Tryd.func3 (by kernel_rfl)
    (of_decide_eq_true (by kernel_rfl)) (by unfold Func.isWrapper; first | (rw [if_pos (by decide +kernel)]; kernel_rfl) | (rw [if_neg (by decide +kernel)]; exact ⟨rfl, rfl⟩))
    (fun os started H enc _ F => by rw [OpenClaim.pre_eq_preRow]; exact lifted os started H enc F)

theorem plain (f : FuncId) (fn : Func) (hf : Tryd.pinned.checked.prog.funcNamed "pub-streamkeep/laws.FnDNParse" = some f) (hfn : Tryd.pinned.checked.prog.funcs[f]? = some fn) :
    false = Tryd.pinned.checked.prog.looks [] ∧ ∀ (j : Nat) t, fn.params[j]? = some t → Tryd.pinned.checked.prog.wantsStandIn t = false := by
  obtain rfl : f = 3 := Option.some.inj ((show Tryd.prog.funcNamed "pub-streamkeep/laws.FnDNParse" = some 3 by kernel_rfl).symm.trans hf) |>.symm
  obtain rfl : fn = Tryd.f3 := (Option.some.inj (Tryd.func3.symm.trans hfn)).symm
  refine ⟨by kernel_rfl, fun j t ht => ?_⟩
  rw [Tryd.params3] at ht
  have hm : t ∈ [9] := by simpa using Array.mem_of_getElem? ht
  have hall : ([9].all fun u => !Tryd.prog.wantsStandIn u) = true := by kernel_rfl
  exact (show Tryd.prog.wantsStandIn t = false by simpa using List.all_eq_true.1 hall t hm)

/-- THE CARD. -/
theorem card : Rows.FnDNParseCardSaid :=
  Claim7.holds_tied_plain_at .later [] _ _ _ _ said (fun _ h => by cases h) (by kernel_rfl) (fun _ h => by cases h) fnDNParse_row_tie rfl ⟨rfl, rfl⟩ (by kernel_rfl) rfl plain (by kernel_rfl)

end Go.Proofs.YtnjjhklefamaoaaDoor.dnParse
