/-
  FnConsumerOrder: the law and its card: in whatever order messages are acknowledged, the state behind all of them is the same; whatever the input.
-/
import Derived.Test.YtchphfdoneckeaaDoorOr
import Derived.Test.YtchphfdoneckeaaDoorLd
import Derived.Test.YtchphfdoneckeaaDoorCards
import Derived.Test.YtchphfdoneckeaaDoorTie
import Derived.Deep.DeepHandedRow
import Derived.Deep.DeepWitnessRowRef
import Derived.LaidMore
import Derived.LaidHandle
import Derived.Lay
namespace Go.Proofs.YtchphfdoneckeaaDoor.consumerOrder
open Go.ChangeShapes Go.WideShapes Go.ChangeAt Go.RowKit
open K (Yes Lies nums)

theorem law_any (m t : Int) (n1 cap1 n2 cap2 : Nat) (A1 A2 : Option Addr) (zs ys : List Int) (te : TypeId) (ve : Value) (w : World) (hE : w.cell? ⟨1, 0, none⟩ = some (.iface te ve)) (hA : Lies w A1 n1 (nums .i64 zs)) (hB : Lies w A2 n2 (nums .i64 ys)) (hzl : zs.length = n1) (hyl : ys.length = n2) :
    Calls Tryd.prog 3 #[.int .i64 m, .slice A1 n1 cap1, .slice A2 n2 cap2, .int .i64 t] w (Yes w) := by
  by_cases hn : 2147483647 < (n1 : Int)
  · exact long1 m t n1 cap1 n2 cap2 A1 A2 w hn
  by_cases hn2 : 2147483647 < (n2 : Int)
  · exact long2 m t n1 cap1 n2 cap2 A1 A2 w hn hn2
  by_cases h0 : m < 1
  · exact away0 m t n1 cap1 n2 cap2 A1 A2 zs ys te ve w hE hA hB hzl hyl hn hn2 h0
  by_cases h1 : 12 < m
  · exact away1 m t n1 cap1 n2 cap2 A1 A2 zs ys te ve w hE hA hB hzl hyl hn hn2 h0 h1
  by_cases h2 : (n1 : Int) ≠ m
  · exact away2 m t n1 cap1 n2 cap2 A1 A2 zs ys te ve w hE hA hB hzl hyl hn hn2 h0 h1 h2
  by_cases h3 : (n2 : Int) ≠ m
  · exact away3 m t n1 cap1 n2 cap2 A1 A2 zs ys te ve w hE hA hB hzl hyl hn hn2 h0 h1 h2 h3
  by_cases h4 : t < 1
  · exact away4 m t n1 cap1 n2 cap2 A1 A2 zs ys te ve w hE hA hB hzl hyl hn hn2 h0 h1 h2 h3 h4
  by_cases h5 : 1152921504606846976 < t
  · exact away5 m t n1 cap1 n2 cap2 A1 A2 zs ys te ve w hE hA hB hzl hyl hn hn2 h0 h1 h2 h3 h4 h5
  obtain rfl : (n1 : Int) = m := by simpa using h2
  obtain rfl : n2 = n1 := by have : (n2 : Int) = (n1 : Int) := by simpa using h3
                             omega
  exact main_any n2 cap1 cap2 A1 A2 zs ys t te ve w hE hA hB hzl hyl h0 h1 h4 h5

theorem own : ownKnob Tryd.prog.godebug = none := by kernel_rfl
theorem laidOut : laidOutB Tryd.prog = true := by kernel_rfl
/-- what the row's list gives: ErrStoreMsgNotFound is not nil -/
theorem facts {W : World} (h : laidMetH Tryd.prog Rows.fnConsumerOrderRow.laid W) : ∃ te ve, W.cell? ⟨1, 0, none⟩ = some (.iface te ve) := by
  rw [MakeChecks.laidMetH_plain _ _ _ (by kernel_rfl)] at h
  exact miss_iface (Go.Lib.laidMet.reads h (List.Mem.tail _ (List.Mem.head _)))
theorem door_met (os : Os) (args : Array Value) : laidMetH Tryd.prog Rows.fnConsumerOrderRow.laid ((World.doorLaid Tryd.prog 95 os).forCall (fun _ _ => 0) ⟨#[], args, []⟩).memory := 
  laidMetH_of_parts3 (fuel := 8) (laidMet_of_run' 8 (by kernel_rfl) (by kernel_rfl)) (by kernel_rfl) (by kernel_rfl)
set_option maxRecDepth 100000 in
theorem reads (os : Os) {H : Type} (enc : TypeId × Value → H) : ∃ places, DataW.whole enc Tryd.prog ((World.doorLaid Tryd.prog 95 os).forCall (fun _ _ => 0) ⟨#[], #[.int .i64 0, .slice none 0 0, .slice none 0 0, .int .i64 0], []⟩).memory Tryd.f3.params.toList Rows.fnConsumerOrderSpec.vars false (#[.int .i64 0, .slice none 0 0, .slice none 0 0, .int .i64 0] : Array Value).toList 8 = some ([.lit (.int .i64 0), .nil, .nil, .lit (.int .i64 0)], [], places) :=
  ⟨[], by kernel_rfl⟩

set_option maxRecDepth 100000 in
theorem contract (H : Type) (enc : TypeId × Value → H) (W : World) (args : Array Value) (ds gs : List (DataW H)) (before : List MemPlace)
    (hval : ∀ (j : Nat) t v, Tryd.f3.params[j]? = some t → args[j]? = some v → Value.okWide Tryd.prog W .any 0 t v)
    (hW : DataW.Whole enc Tryd.prog Tryd.f3.params.toList Rows.fnConsumerOrderSpec.vars false W args.toList ds gs before) (hL : laidMetH Tryd.prog Rows.fnConsumerOrderRow.laid W) :
    Calls Tryd.prog 3 args W fun e W' => ∃ v, e = .returned v ∧ Rows.fnConsumerOrderSpec.post enc Tryd.prog Tryd.f3 false true false false W args v W' := by
  have hW' := hW
  obtain ⟨p, q, hA0, hV, rfl, hfz, hnd⟩ := hW
  have hA : DataW.TrodAll enc Tryd.prog W 0 (fun _ => true) true Tryd.f3.params.toList args.toList ds p := hA0
  rw [Tryd.params3] at hA hval
  obtain ⟨v0, vs0, d0, ds0, p0, q0, hargs, rfl, rfl, h0, r0⟩ := trodAll_cons hA
  obtain ⟨v1, vs1, d1, ds1, p1, q1, rfl, rfl, rfl, h1, r1⟩ := trodAll_cons r0
  obtain ⟨v2, vs2, d2, ds2, p2, q2, rfl, rfl, rfl, h2, r2⟩ := trodAll_cons r1
  obtain ⟨v3, vs3, d3, ds3, p3, q3, rfl, rfl, rfl, h3, r3⟩ := trodAll_cons r2
  obtain ⟨rfl, rfl, rfl⟩ := trodAll_nil r3
  obtain rfl : args = #[v0, v1, v2, v3] := by cases args; simp_all
  obtain ⟨rfl, rfl⟩ := trodVars_none hV
  obtain ⟨m, rfl, rfl, rfl, wm⟩ := open_int Tryd.underlying3 (hval 0 3 v0 rfl rfl) h0
  obtain ⟨A1, n1, cap1, zs, rfl, hl1, _, ha1, _, _⟩ := K.open_nums Tryd.underlying22 Tryd.underlying3 (by kernel_rfl) (hval 1 22 v1 rfl rfl) h1
  obtain ⟨A2, n2, cap2, ys, rfl, hl2, _, ha2, _, _⟩ := K.open_nums Tryd.underlying22 Tryd.underlying3 (by kernel_rfl) (hval 2 22 v2 rfl rfl) h2
  obtain ⟨t, rfl, rfl, rfl, wt⟩ := open_int Tryd.underlying2 (hval 3 2 v3 rfl rfl) h3
  obtain ⟨te, ve, hE⟩ := facts hL
  refine (law_any m t n1 cap1 n2 cap2 A1 A2 zs ys te ve W hE ha1 ha2 hl1 hl2).mono fun e W' ⟨hE, hg⟩ => ?_
  subst hE
  exact ⟨_, rfl, K.post_law (tb := 4) laidOut Tryd.underlying4 rfl (by kernel_rfl) rfl rfl (fun W => ok_one (by kernel_rfl) rfl (okWide_bool_mk Tryd.underlying4 _)) hW' hg⟩

set_option maxRecDepth 100000 in
theorem lifted (os : Os) (started : os.Started) (H : Type) (enc : TypeId × Value → H) (F : Stop.Interp) :
    ReturnsInHanded {} Tryd.checked os 3 .any ((OpenSpec.ofChange Rows.fnConsumerOrderSpec).preRow enc Tryd.prog Tryd.f3 Rows.fnConsumerOrderRow.domain false Rows.fnConsumerOrderRow.laid) (((OpenSpec.ofChange Rows.fnConsumerOrderSpec).at F).post enc Tryd.prog Tryd.f3 false true false false) := by
  obtain ⟨places, hx⟩ := reads os enc
  refine returnsInHanded_of_row (C := Tryd.checked) (s := OpenSpec.ofChange Rows.fnConsumerOrderSpec) own started (by kernel_rfl) Tryd.func3
    (witness_row_atRef (enc := enc) (C := Tryd.checked) false (World.doorLaid Tryd.prog 95 os) #[.int .i64 0, .slice none 0 0, .slice none 0 0, .int .i64 0] rfl (by kernel_rfl) (by kernel_rfl) (by kernel_rfl)
      (OpenSpec.preRow_of_cond 8 hx (by kernel_rfl) (fun k hk => by cases hk) (by kernel_rfl) (door_met os _))) ?_
  intro W base args ds gs before hval hW _ hcond _ hL _ _
  exact contract H enc W args ds gs before hval hW hL

theorem said : Rows.FnConsumerOrderSaid :=
  OpenClaim.holds_of_cond 3 Tryd.f3 rfl rfl rfl rfl rfl rfl rfl ⟨rfl, rfl, rfl, rfl, rfl⟩ rfl rfl rfl rfl rfl (by kernel_rfl) Tryd.func3 (by kernel_rfl)
    (of_decide_eq_true (by kernel_rfl)) (by unfold Func.isWrapper; first | (rw [if_pos (by decide +kernel)]; kernel_rfl) | (rw [if_neg (by decide +kernel)]; exact ⟨rfl, rfl⟩))
    (fun os started H enc _ F => by rw [OpenClaim.pre_eq_preRow]; exact lifted os started H enc F)

theorem plain (f : FuncId) (fn : Func) (hf : Tryd.pinned.checked.prog.funcNamed "pub-streamkeep/laws.FnConsumerOrder" = some f) (hfn : Tryd.pinned.checked.prog.funcs[f]? = some fn) :
    false = Tryd.pinned.checked.prog.looks [] ∧ ∀ (j : Nat) t, fn.params[j]? = some t → Tryd.pinned.checked.prog.wantsStandIn t = false := by
  obtain rfl : f = 3 := Option.some.inj ((show Tryd.prog.funcNamed "pub-streamkeep/laws.FnConsumerOrder" = some 3 by kernel_rfl).symm.trans hf) |>.symm
  obtain rfl : fn = Tryd.f3 := (Option.some.inj (Tryd.func3.symm.trans hfn)).symm
  refine ⟨by kernel_rfl, fun j t ht => ?_⟩
  rw [Tryd.params3] at ht
  have hm : t ∈ [3, 22, 22, 2] := by simpa using Array.mem_of_getElem? ht
  have hall : ([3, 22, 22, 2].all fun u => !Tryd.prog.wantsStandIn u) = true := by kernel_rfl
  exact (show Tryd.prog.wantsStandIn t = false by simpa using List.all_eq_true.1 hall t hm)

/-- THE CARD. -/
theorem card : Rows.FnConsumerOrderCardSaid :=
  Claim7.holds_tied_plain_at .later [] _ _ _ _ said (fun _ h => by cases h) (by kernel_rfl) (fun _ h => by cases h) fnConsumerOrder_row_tie rfl ⟨rfl, rfl⟩ (by kernel_rfl) rfl plain (by kernel_rfl)

end Go.Proofs.YtchphfdoneckeaaDoor.consumerOrder
