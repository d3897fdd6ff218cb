/-
  FnConsumerUpdate: the law and its card: a new consumer that is given a state has it; whatever the input.
-/
import Derived.Test.YtchphfdoneckeaaDoorCu
import Derived.Test.YtchphfdoneckeaaDoorOp
import Derived.Test.YtchphfdoneckeaaDoorLd
import Derived.Test.YtchphfdoneckeaaDoorCards
import Derived.Test.YtchphfdoneckeaaDoorTie
import Derived.Deep.DeepHandedRow
import Derived.Deep.DeepWitnessRowRef
import Derived.LaidMore
import Derived.LaidHandle
import Derived.Lay
namespace Go.Proofs.YtchphfdoneckeaaDoor.consumerUpdate
open Go.ChangeShapes Go.WideShapes Go.ChangeAt Go.RowKit
open Cs (Wt Kp Ag)
open K (Yes)

theorem law_any (ack : Int) (k : Kp) (ag : List Ag) (A B : Option Addr) (n m c1 c2 : Nat) (te : TypeId) (ve : Value) (w : World) (hE : w.cell? ⟨1, 0, none⟩ = some (.iface te ve)) (hkn : k.waits.length = n) (hka : ag.length = m) (hW : WAt w A k.waits) (hA : AAt w B ag)
    (hs : ∀ x ∈ k.waits, x.s < 18446744073709551616) (hsa : ∀ x ∈ ag, x.s < 18446744073709551616 ∧ x.n < 18446744073709551616) :
    Calls Tryd.prog 5 #[.int .i64 ack, .agg #[.int .u64 (k.dc : Int), .int .u64 (k.ds : Int), .int .u64 (k.fc : Int), .int .u64 (k.fs : Int), .slice A n c1, .slice B m c2]] w (Yes w) := by
  by_cases hn : 2147483647 < (n : Int)
  · exact long1 ack k A B n m c1 c2 w hn
  by_cases hm : 2147483647 < (m : Int)
  · exact long2 ack k A B n m c1 c2 w hn hm
  by_cases h0 : ack < 0
  · exact away0 ack k A B n m c1 c2 te ve w hE hn hm h0
  by_cases h1 : 2 < ack
  · exact away1 ack k A B n m c1 c2 te ve w hE hn hm h0 h1
  by_cases h2 : 8 < (n : Int)
  · exact away2 ack k A B n m c1 c2 te ve w hE hn hm h0 h1 h2
  by_cases h3 : 8 < (m : Int)
  · exact away3 ack k A B n m c1 c2 te ve w hE hn hm h0 h1 h2 h3
  exact main_any ack k ag A B n m c1 c2 te ve w hE hkn hka hW hA hs hsa h0 h1 h2 h3

theorem own : ownKnob Tryd.prog.godebug = none := by kernel_rfl
theorem laidOut : laidOutB Tryd.prog = true := by kernel_rfl
/-- what the row's list gives: ErrStoreMsgNotFound is not nil -/
theorem facts {W : World} (h : laidMetH Tryd.prog Rows.fnConsumerUpdateRow.laid W) : ∃ te ve, W.cell? ⟨1, 0, none⟩ = some (.iface te ve) := by
  rw [MakeChecks.laidMetH_plain _ _ _ (by kernel_rfl)] at h
  exact miss_iface (Go.Lib.laidMet.reads h (List.Mem.tail _ (List.Mem.head _)))
theorem door_met (os : Os) (args : Array Value) : laidMetH Tryd.prog Rows.fnConsumerUpdateRow.laid ((World.doorLaid Tryd.prog 95 os).forCall (fun _ _ => 0) ⟨#[], args, []⟩).memory := 
  laidMetH_of_parts3 (fuel := 8) (laidMet_of_run' 8 (by kernel_rfl) (by kernel_rfl)) (by kernel_rfl) (by kernel_rfl)
set_option maxRecDepth 100000 in
theorem reads (os : Os) {H : Type} (enc : TypeId × Value → H) : ∃ places, DataW.whole enc Tryd.prog ((World.doorLaid Tryd.prog 95 os).forCall (fun _ _ => 0) ⟨#[], #[.int .i64 0, .agg #[.int .u64 0, .int .u64 0, .int .u64 0, .int .u64 0, .slice none 0 0, .slice none 0 0]], []⟩).memory Tryd.f5.params.toList Rows.fnConsumerUpdateSpec.vars false (#[.int .i64 0, .agg #[.int .u64 0, .int .u64 0, .int .u64 0, .int .u64 0, .slice none 0 0, .slice none 0 0]] : Array Value).toList 8 = some ([.lit (.int .i64 0), .agg [.agg [.lit (.int .u64 0), .lit (.int .u64 0)], .agg [.lit (.int .u64 0), .lit (.int .u64 0)], .nil, .nil]], [], places) :=
  ⟨[], by kernel_rfl⟩

set_option maxRecDepth 100000 in
theorem contract (H : Type) (enc : TypeId × Value → H) (W : World) (args : Array Value) (ds gs : List (DataW H)) (before : List MemPlace)
    (hval : ∀ (j : Nat) t v, Tryd.f5.params[j]? = some t → args[j]? = some v → Value.okWide Tryd.prog W .any 0 t v)
    (hW : DataW.Whole enc Tryd.prog Tryd.f5.params.toList Rows.fnConsumerUpdateSpec.vars false W args.toList ds gs before) (hL : laidMetH Tryd.prog Rows.fnConsumerUpdateRow.laid W) :
    Calls Tryd.prog 5 args W fun e W' => ∃ v, e = .returned v ∧ Rows.fnConsumerUpdateSpec.post enc Tryd.prog Tryd.f5 false true false false W args v W' := by
  have hW' := hW
  obtain ⟨p, q, hA0, hV, rfl, hfz, hnd⟩ := hW
  have hA : DataW.TrodAll enc Tryd.prog W 0 (fun _ => true) true Tryd.f5.params.toList args.toList ds p := hA0
  rw [Tryd.params5] at hA hval
  obtain ⟨v0, vs0, d0, ds0, p0, q0, hargs, rfl, rfl, h0, r0⟩ := trodAll_cons hA
  obtain ⟨v1, vs1, d1, ds1, p1, q1, rfl, rfl, rfl, h1, r1⟩ := trodAll_cons r0
  obtain ⟨rfl, rfl, rfl⟩ := trodAll_nil r1
  obtain rfl : args = #[v0, v1] := by cases args; simp_all
  obtain ⟨rfl, rfl⟩ := trodVars_none hV
  obtain ⟨ack, rfl, rfl, rfl, wa⟩ := open_int Tryd.underlying3 (hval 0 3 v0 rfl rfl) h0
  obtain ⟨k, ag, A, B, n, m, c1, c2, rfl, hkn, hka, hkW, hkA, hks, hksa⟩ := open_keep (hval 1 31 v1 rfl rfl) h1
  obtain ⟨te, ve, hE⟩ := facts hL
  refine (law_any ack k ag A B n m c1 c2 te ve W hE hkn hka hkW hkA hks hksa).mono fun e W' ⟨hE, hg⟩ => ?_
  subst hE
  exact ⟨_, rfl, K.post_law (tb := 4) laidOut Tryd.underlying4 rfl (by kernel_rfl) rfl rfl (fun W => ok_one (by kernel_rfl) rfl (okWide_bool_mk Tryd.underlying4 _)) hW' hg⟩

set_option maxRecDepth 100000 in
theorem lifted (os : Os) (started : os.Started) (H : Type) (enc : TypeId × Value → H) (F : Stop.Interp) :
    ReturnsInHanded {} Tryd.checked os 5 .any ((OpenSpec.ofChange Rows.fnConsumerUpdateSpec).preRow enc Tryd.prog Tryd.f5 Rows.fnConsumerUpdateRow.domain false Rows.fnConsumerUpdateRow.laid) (((OpenSpec.ofChange Rows.fnConsumerUpdateSpec).at F).post enc Tryd.prog Tryd.f5 false true false false) := by
  obtain ⟨places, hx⟩ := reads os enc
  refine returnsInHanded_of_row (C := Tryd.checked) (s := OpenSpec.ofChange Rows.fnConsumerUpdateSpec) own started (by kernel_rfl) Tryd.func5
    (witness_row_atRef (enc := enc) (C := Tryd.checked) false (World.doorLaid Tryd.prog 95 os) #[.int .i64 0, .agg #[.int .u64 0, .int .u64 0, .int .u64 0, .int .u64 0, .slice none 0 0, .slice none 0 0]] rfl (by kernel_rfl) (by kernel_rfl) (by kernel_rfl)
      (OpenSpec.preRow_of_cond 8 hx (by kernel_rfl) (fun k hk => by cases hk) (by kernel_rfl) (door_met os _))) ?_
  intro W base args ds gs before hval hW _ hcond _ hL _ _
  exact contract H enc W args ds gs before hval hW hL

theorem said : Rows.FnConsumerUpdateSaid :=
  OpenClaim.holds_of_cond 5 Tryd.f5 rfl rfl rfl rfl rfl rfl rfl ⟨rfl, rfl, rfl, rfl, rfl⟩ rfl rfl rfl rfl rfl (by kernel_rfl) Tryd.func5 (by kernel_rfl)
    (of_decide_eq_true (by kernel_rfl)) (by unfold Func.isWrapper; first | (rw [if_pos (by decide +kernel)]; kernel_rfl) | (rw [if_neg (by decide +kernel)]; exact ⟨rfl, rfl⟩))
    (fun os started H enc _ F => by rw [OpenClaim.pre_eq_preRow]; exact lifted os started H enc F)

theorem plain (f : FuncId) (fn : Func) (hf : Tryd.pinned.checked.prog.funcNamed "pub-streamkeep/laws.FnConsumerUpdate" = some f) (hfn : Tryd.pinned.checked.prog.funcs[f]? = some fn) :
    false = Tryd.pinned.checked.prog.looks [] ∧ ∀ (j : Nat) t, fn.params[j]? = some t → Tryd.pinned.checked.prog.wantsStandIn t = false := by
  obtain rfl : f = 5 := Option.some.inj ((show Tryd.prog.funcNamed "pub-streamkeep/laws.FnConsumerUpdate" = some 5 by kernel_rfl).symm.trans hf) |>.symm
  obtain rfl : fn = Tryd.f5 := (Option.some.inj (Tryd.func5.symm.trans hfn)).symm
  refine ⟨by kernel_rfl, fun j t ht => ?_⟩
  rw [Tryd.params5] at ht
  have hm : t ∈ [3, 31] := by simpa using Array.mem_of_getElem? ht
  have hall : ([3, 31].all fun u => !Tryd.prog.wantsStandIn u) = true := by kernel_rfl
  exact (show Tryd.prog.wantsStandIn t = false by simpa using List.all_eq_true.1 hall t hm)

/-- THE CARD. -/
theorem card : Rows.FnConsumerUpdateCardSaid :=
  Claim7.holds_tied_plain_at .later [] _ _ _ _ said (fun _ h => by cases h) (by kernel_rfl) (fun _ h => by cases h) fnConsumerUpdate_row_tie rfl ⟨rfl, rfl⟩ (by kernel_rfl) rfl plain (by kernel_rfl)

end Go.Proofs.YtchphfdoneckeaaDoor.consumerUpdate
