/-
  FnConsumerBack: the law and its card: a state that was encoded is read as the same; whatever the input.
-/
import Derived.Test.YtchphfdoneckeaaDoorCx
import Derived.Test.YtchphfdoneckeaaDoorOp
import Derived.Test.YtchphfdoneckeaaDoorLd
import Derived.Test.YtchphfdoneckeaaDoorCards
import Derived.Test.YtchphfdoneckeaaDoorTie
import Derived.Deep.DeepHandedRow
import Derived.Deep.DeepWitnessRowRef
import Derived.LaidMore
import Derived.LaidHandle
import Derived.Lay
namespace Go.Proofs.YtchphfdoneckeaaDoor.consumerBack
open Go.ChangeShapes Go.WideShapes Go.ChangeAt Go.RowKit
open Cs (Wt Kp Ag)
open K (Yes)

theorem own : ownKnob Tryd.prog.godebug = none := by kernel_rfl
theorem laidOut : laidOutB Tryd.prog = true := by kernel_rfl
/-- what the row's list gives: ErrStoreMsgNotFound is not nil -/
theorem facts {W : World} (h : laidMetH Tryd.prog Rows.fnConsumerBackRow.laid W) : ∃ te ve, W.cell? ⟨1, 0, none⟩ = some (.iface te ve) := by
  rw [MakeChecks.laidMetH_plain _ _ _ (by kernel_rfl)] at h
  exact miss_iface (Go.Lib.laidMet.reads h (List.Mem.tail _ (List.Mem.tail _ (List.Mem.head _))))
theorem door_met (os : Os) (args : Array Value) : laidMetH Tryd.prog Rows.fnConsumerBackRow.laid ((World.doorLaid Tryd.prog 95 os).forCall (fun _ _ => 0) ⟨#[], args, []⟩).memory := 
  laidMetH_of_parts3 (fuel := 8) (laidMet_of_run' 8 (by kernel_rfl) (by kernel_rfl)) (by kernel_rfl) (by kernel_rfl)
set_option maxRecDepth 100000 in
theorem reads (os : Os) {H : Type} (enc : TypeId × Value → H) : ∃ places, DataW.whole enc Tryd.prog ((World.doorLaid Tryd.prog 95 os).forCall (fun _ _ => 0) ⟨#[], #[.agg #[.int .u64 0, .int .u64 0, .int .u64 0, .int .u64 0, .slice none 0 0, .slice none 0 0]], []⟩).memory Tryd.f6.params.toList Rows.fnConsumerBackSpec.vars false (#[.agg #[.int .u64 0, .int .u64 0, .int .u64 0, .int .u64 0, .slice none 0 0, .slice none 0 0]] : Array Value).toList 8 = some ([.agg [.agg [.lit (.int .u64 0), .lit (.int .u64 0)], .agg [.lit (.int .u64 0), .lit (.int .u64 0)], .nil, .nil]], [], places) :=
  ⟨[], by kernel_rfl⟩

set_option maxRecDepth 100000 in
theorem contract (H : Type) (enc : TypeId × Value → H) (W : World) (args : Array Value) (ds gs : List (DataW H)) (before : List MemPlace)
    (hval : ∀ (j : Nat) t v, Tryd.f6.params[j]? = some t → args[j]? = some v → Value.okWide Tryd.prog W .any 0 t v)
    (hW : DataW.Whole enc Tryd.prog Tryd.f6.params.toList Rows.fnConsumerBackSpec.vars false W args.toList ds gs before) (hL : laidMetH Tryd.prog Rows.fnConsumerBackRow.laid W) :
    Calls Tryd.prog 6 args W fun e W' => ∃ v, e = .returned v ∧ Rows.fnConsumerBackSpec.post enc Tryd.prog Tryd.f6 false true false false W args v W' := by
  have hW' := hW
  obtain ⟨p, q, hA0, hV, rfl, hfz, hnd⟩ := hW
  have hA : DataW.TrodAll enc Tryd.prog W 0 (fun _ => true) true Tryd.f6.params.toList args.toList ds p := hA0
  rw [Tryd.params6] at hA hval
  obtain ⟨v0, vs0, d0, ds0, p0, q0, hargs, rfl, rfl, h0, r0⟩ := trodAll_cons hA
  obtain ⟨rfl, rfl, rfl⟩ := trodAll_nil r0
  obtain rfl : args = #[v0] := by cases args; simp_all
  obtain ⟨rfl, rfl⟩ := trodVars_none hV
  obtain ⟨k, ag, A, B, n, m, c1, c2, rfl, hkn, hka, hkW, hkA, hks, hksa⟩ := open_keep (hval 0 31 v0 rfl rfl) h0
  obtain ⟨te, ve, hE⟩ := facts hL
  refine (law_any k ag A B n m c1 c2 te ve W hE hkn hka hkW hkA hks hksa).mono fun e W' ⟨hE, hg⟩ => ?_
  subst hE
  exact ⟨_, rfl, K.post_law (tb := 4) laidOut Tryd.underlying4 rfl (by kernel_rfl) rfl rfl (fun W => ok_one (by kernel_rfl) rfl (okWide_bool_mk Tryd.underlying4 _)) hW' hg⟩

set_option maxRecDepth 100000 in
theorem lifted (os : Os) (started : os.Started) (H : Type) (enc : TypeId × Value → H) (F : Stop.Interp) :
    ReturnsInHanded {} Tryd.checked os 6 .any ((OpenSpec.ofChange Rows.fnConsumerBackSpec).preRow enc Tryd.prog Tryd.f6 Rows.fnConsumerBackRow.domain false Rows.fnConsumerBackRow.laid) (((OpenSpec.ofChange Rows.fnConsumerBackSpec).at F).post enc Tryd.prog Tryd.f6 false true false false) := by
  obtain ⟨places, hx⟩ := reads os enc
  refine returnsInHanded_of_row (C := Tryd.checked) (s := OpenSpec.ofChange Rows.fnConsumerBackSpec) own started (by kernel_rfl) Tryd.func6
    (witness_row_atRef (enc := enc) (C := Tryd.checked) false (World.doorLaid Tryd.prog 95 os) #[.agg #[.int .u64 0, .int .u64 0, .int .u64 0, .int .u64 0, .slice none 0 0, .slice none 0 0]] rfl (by kernel_rfl) (by kernel_rfl) (by kernel_rfl)
      (OpenSpec.preRow_of_cond 8 hx (by kernel_rfl) (fun k hk => by cases hk) (by kernel_rfl) (door_met os _))) ?_
  intro W base args ds gs before hval hW _ hcond _ hL _ _
  exact contract H enc W args ds gs before hval hW hL

theorem said : Rows.FnConsumerBackSaid :=
  OpenClaim.holds_of_cond 6 Tryd.f6 rfl rfl rfl rfl rfl rfl rfl ⟨rfl, rfl, rfl, rfl, rfl⟩ rfl rfl rfl rfl rfl (by kernel_rfl) Tryd.func6 (by kernel_rfl)
    (of_decide_eq_true (by kernel_rfl)) (by unfold Func.isWrapper; first | (rw [if_pos (by decide +kernel)]; kernel_rfl) | (rw [if_neg (by decide +kernel)]; exact ⟨rfl, rfl⟩))
    (fun os started H enc _ F => by rw [OpenClaim.pre_eq_preRow]; exact lifted os started H enc F)

theorem plain (f : FuncId) (fn : Func) (hf : Tryd.pinned.checked.prog.funcNamed "pub-streamkeep/laws.FnConsumerBack" = some f) (hfn : Tryd.pinned.checked.prog.funcs[f]? = some fn) :
    false = Tryd.pinned.checked.prog.looks [] ∧ ∀ (j : Nat) t, fn.params[j]? = some t → Tryd.pinned.checked.prog.wantsStandIn t = false := by
  obtain rfl : f = 6 := Option.some.inj ((show Tryd.prog.funcNamed "pub-streamkeep/laws.FnConsumerBack" = some 6 by kernel_rfl).symm.trans hf) |>.symm
  obtain rfl : fn = Tryd.f6 := (Option.some.inj (Tryd.func6.symm.trans hfn)).symm
  refine ⟨by kernel_rfl, fun j t ht => ?_⟩
  rw [Tryd.params6] at ht
  have hm : t ∈ [31] := by simpa using Array.mem_of_getElem? ht
  have hall : ([31].all fun u => !Tryd.prog.wantsStandIn u) = true := by kernel_rfl
  exact (show Tryd.prog.wantsStandIn t = false by simpa using List.all_eq_true.1 hall t hm)

/-- THE CARD. -/
theorem card : Rows.FnConsumerBackCardSaid :=
  Claim7.holds_tied_plain_at .later [] _ _ _ _ said (fun _ h => by cases h) (by kernel_rfl) (fun _ h => by cases h) fnConsumerBack_row_tie rfl ⟨rfl, rfl⟩ (by kernel_rfl) rfl plain (by kernel_rfl)

end Go.Proofs.YtchphfdoneckeaaDoor.consumerBack
