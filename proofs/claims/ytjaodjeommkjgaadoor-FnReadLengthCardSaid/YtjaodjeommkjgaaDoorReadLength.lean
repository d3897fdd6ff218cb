/-
  FnReadLength holds: a remaining length is read from its bytes, piece by piece, just as the reference reads it of all of them. For every slice of texts that the row lets in (no condition of ours).
-/
import Derived.Test.YtjaodjeommkjgaaDoorLen
import Derived.Test.YtjaodjeommkjgaaDoorCards
import Derived.Test.YtjaodjeommkjgaaDoorTie
import Derived.Deep.DeepHandedRow
import Derived.Deep.DeepWitnessRowRef
import Derived.LaidMore
import Derived.LaidHandle
namespace Go.Proofs.YtjaodjeommkjgaaDoor.readLength
open Go.ChangeShapes Go.WideShapes Go.ChangeAt Go.RowKit
open K (Lies lies_one Yes)

theorem rl_80 : Vi.rl [] (bytes [⟨#[128, 1]⟩]) = (128, 2, true) := by decide
theorem sum_80 : (Vi.join (bytes [⟨#[128, 1]⟩])).length ≤ 1000000 := by decide

set_option maxRecDepth 100000 in
theorem readLengthLaw_any (ss : List ByteArray) (n cap : Nat) (A : Option Addr) (w : World) (hlen : ss.length = n) (hn63 : n ≤ 9223372036854775807) (hl : Lies w A n (K.strs ss))
   (te : TypeId) (ve : Value) (he : w.cell? ⟨0, 0, none⟩ = some (.iface te ve)) (h0 : 0 < w.heap.size) :
  Calls Tryd.prog 4 #[.slice A n cap] w (Yes w) := by
  have HL := Lib.hid hlen
  have HC := Lib.hid hl
  clear hlen hl
  go_enter Tryd.func4, Tryd.ntmps4
  go_wp2_with fail
  refine (zzFits2_any ss n cap A w HL.out (by omega) HC.out).mono ?_
  rintro e w' ⟨b, rfl, rfl, hb⟩
  cases b with
  | false =>
    go_wp2_with fail
    go_ret
    exact ⟨rfl, Below.refl _ _⟩
  | true =>
    have hn := hb rfl
    clear hb
    go_wp2_with fail
    refine (readLength_any [⟨#[128, 1]⟩] 1 1 _ _ rfl (by omega) (lies_one _ _ _) sum_80 te ve ?_ (by simp)).mono ?_
    · rw [World.cell?_alloc_past _ _ _ (by exact h0)]; exact he
    rintro e w1 ⟨rfl, hb1⟩
    rw [rl_80]
    have hb2 : Below w.heap.size w w1 := ((Below.refl _ _).alloc (Nat.le_refl _) _).trans (hb1.mono (by simp))
    have hl1 : Lies w1 A n (K.strs ss) := HC.out.below hb2 (Nat.le_refl _)
    have HL1 := Lib.hid hl1
    clear hb1 hl1
    simp only [rlVal]
    go_wp2_with fail
    refine (length_any ss n cap A w1 HL.out (by omega) HL1.out).mono ?_
    rintro e w' ⟨x, rfl, rfl, hx⟩
    have HX := Lib.hid hx
    clear hx
    by_cases hx20 : x ≤ 20
    · have hsum := HX.out (by omega)
      have hsm : sumLen ss ≤ 1000000 := by omega
      clear hsum
      by_cases hn6 : n ≤ 6
      · go_wp2_with fail
        refine (known_any ss n cap A w1 HL.out (by omega) HL1.out hsm).mono ?_
        rintro e w2 ⟨b, rfl, hb3⟩
        have hb4 : Below w.heap.size w w2 := hb2.trans (hb3.mono hb2.size)
        cases b with
        | false =>
          go_wp2_with fail
          go_ret
          exact ⟨rfl, hb4⟩
        | true =>
          have hl2 : Lies w2 A n (K.strs ss) := HC.out.below hb4 (Nat.le_refl _)
          have HL2 := Lib.hid hl2
          clear hl2 hb3
          go_wp2_with fail
          refine (specRead_any ss n cap A w2 HL.out (by omega) HL2.out hsm).mono ?_
          rintro e w' ⟨rfl, rfl⟩
          have hrj := Vi.rl_join (bytes ss)
          rw [← hrj]
          have HRJ := Lib.hid hrj
          obtain ⟨⟨v, u, ok⟩, hr⟩ : ∃ r, r = Vi.rl [] (bytes ss) := ⟨_, rfl⟩
          rw [← hr]
          have HR := Lib.hid hr
          clear hrj hr
          simp only [rlVal]
          go_wp2_with fail
          refine (readLength_any ss n cap A w2 HL.out (by omega) HL2.out hsm te ve ?_ ?_).mono ?_
          · rw [← he]; exact hb4.cell h0
          · exact Nat.lt_of_lt_of_le h0 hb4.size
          rintro e w3 ⟨rfl, hb5⟩
          have hb6 : Below w.heap.size w w3 := hb4.trans (hb5.mono hb4.size)
          rw [← HR.out]
          simp only [rlVal]
          go_wp2_with fail
          go_ret
          exact ⟨rfl, hb6⟩
      · go_wp2_with fail
        go_ret
        exact ⟨rfl, hb2⟩
    · go_wp2_with fail
      go_ret
      exact ⟨rfl, hb2⟩

theorem own : ownKnob Tryd.prog.godebug = none := by kernel_rfl
theorem laidOut : laidOutB Tryd.prog = true := by kernel_rfl
theorem gErr : Tryd.prog.globalNamed "pub-streamkeep/pub/natsserver/server.errMQTTMalformedVarInt" = some 0 := by kernel_rfl
theorem gErrType : (Tryd.prog.globals[0]?).map (·.type) = some 45 := by kernel_rfl

/-- what the row's list gives: the sentinel holds an error that is not nil -/
theorem sentinel {W : World} (h : laidMetH Tryd.prog Rows.fnReadLengthRow.laid W) : ∃ te ve, W.cell? ⟨0, 0, none⟩ = some (.iface te ve) := by
  rw [MakeChecks.laidMetH_plain _ _ _ (by kernel_rfl)] at h
  exact K.laid_iface h gErr gErrType Tryd.underlying45

theorem door_met (os : Os) (args : Array Value) : laidMetH Tryd.prog Rows.fnReadLengthRow.laid ((World.doorLaid Tryd.prog 95 os).forCall (fun _ _ => 0) ⟨#[], args, []⟩).memory :=
  laidMetH_of_parts3 (fuel := 8) (laidMet_of_run' 8 (by kernel_rfl) (by kernel_rfl)) (by kernel_rfl) (by kernel_rfl)
set_option maxRecDepth 100000 in
theorem reads (os : Os) {H : Type} (enc : TypeId × Value → H) : ∃ x, DataW.whole enc Tryd.prog ((World.doorLaid Tryd.prog 95 os).forCall (fun _ _ => 0) ⟨#[], #[.slice none 0 0], []⟩).memory Tryd.f4.params.toList Rows.fnReadLengthSpec.vars false #[Value.slice none 0 0].toList 8 = some x :=
  ⟨([.nil], [], []), by kernel_rfl⟩

set_option maxRecDepth 100000 in
theorem contract (H : Type) (enc : TypeId × Value → H) (W : World) (args : Array Value) (ds gs : List (DataW H)) (before : List MemPlace)
    (hval : ∀ (j : Nat) t v, Tryd.f4.params[j]? = some t → args[j]? = some v → Value.okWide Tryd.prog W .any 0 t v)
    (hW : DataW.Whole enc Tryd.prog Tryd.f4.params.toList Rows.fnReadLengthSpec.vars false W args.toList ds gs before) (hL : laidMetH Tryd.prog Rows.fnReadLengthRow.laid W) :
    Calls Tryd.prog 4 args W fun e W' => ∃ v, e = .returned v ∧ Rows.fnReadLengthSpec.post enc Tryd.prog Tryd.f4 false true false false W args v W' := by
  have hW' := hW
  obtain ⟨p, q, hA0, hV, rfl, hfz, hnd⟩ := hW
  have hA : DataW.TrodAll enc Tryd.prog W 0 (fun _ => true) true Tryd.f4.params.toList args.toList ds p := hA0
  rw [Tryd.params4] at hA hval
  obtain ⟨v0, vs0, d0, ds0, p0, q0, hargs, rfl, rfl, h0, r0⟩ := trodAll_cons hA
  obtain ⟨rfl, rfl, rfl⟩ := trodAll_nil r0
  obtain rfl : args = #[v0] := by cases args; simp_all
  obtain ⟨rfl, rfl⟩ := trodVars_none hV
  obtain ⟨A, n, cap, ss, rfl, hlen, hmax, hl, _, _⟩ := K.open_strs Tryd.underlying25 Tryd.underlying9 (by kernel_rfl) (hval 0 25 v0 rfl rfl) h0
  obtain ⟨te, ve, he⟩ := sentinel hL
  unfold maxLen at hmax
  refine (readLengthLaw_any ss n cap A W hlen (by omega) hl te ve he (World.block_lt_of_cell? W _ he)).mono fun e W' ⟨hE, hg⟩ => ?_
  subst hE
  exact ⟨_, rfl, K.post_law (tb := 4) laidOut Tryd.underlying4 rfl (by kernel_rfl) rfl rfl (fun W => ok_one (by kernel_rfl) rfl (okWide_bool_mk Tryd.underlying4 _)) hW' hg⟩

set_option maxRecDepth 100000 in
theorem lifted (os : Os) (started : os.Started) (H : Type) (enc : TypeId × Value → H) (F : Stop.Interp) :
    ReturnsInHanded {} Tryd.checked os 4 .any ((OpenSpec.ofChange Rows.fnReadLengthSpec).preRow enc Tryd.prog Tryd.f4 Rows.fnReadLengthRow.domain false Rows.fnReadLengthRow.laid) (((OpenSpec.ofChange Rows.fnReadLengthSpec).at F).post enc Tryd.prog Tryd.f4 false true false false) := by
  obtain ⟨x, hx⟩ := reads os enc
  refine returnsInHanded_of_row (C := Tryd.checked) (s := OpenSpec.ofChange Rows.fnReadLengthSpec) own started (by kernel_rfl) Tryd.func4
    (witness_row_atRef (enc := enc) (C := Tryd.checked) false (World.doorLaid Tryd.prog 95 os) #[.slice none 0 0] rfl (by kernel_rfl) (by kernel_rfl) (by kernel_rfl)
      (OpenSpec.preRow_of_cond 8 hx (by kernel_rfl) (fun k hk => by cases hk) (by kernel_rfl) (door_met os _))) ?_
  intro W base args ds gs before hval hW _ _ _ hL _ _
  exact contract H enc W args ds gs before hval hW hL

theorem said : Rows.FnReadLengthSaid :=
  OpenClaim.holds_of_cond 4 Tryd.f4 rfl rfl rfl rfl rfl rfl rfl ⟨rfl, rfl, rfl, rfl, rfl⟩ rfl rfl rfl rfl rfl (by kernel_rfl) Tryd.func4 (by kernel_rfl)
    (of_decide_eq_true (by kernel_rfl)) (by unfold Func.isWrapper; first | (rw [if_pos (by decide +kernel)]; kernel_rfl) | (rw [if_neg (by decide +kernel)]; exact ⟨rfl, rfl⟩))
    (fun os started H enc _ F => by rw [OpenClaim.pre_eq_preRow]; exact lifted os started H enc F)

theorem plain (f : FuncId) (fn : Func) (hf : Tryd.pinned.checked.prog.funcNamed "pub-streamkeep/laws.FnReadLength" = some f) (hfn : Tryd.pinned.checked.prog.funcs[f]? = some fn) :
    false = Tryd.pinned.checked.prog.looks [] ∧ ∀ (j : Nat) t, fn.params[j]? = some t → Tryd.pinned.checked.prog.wantsStandIn t = false := by
  obtain rfl : f = 4 := Option.some.inj ((show Tryd.prog.funcNamed "pub-streamkeep/laws.FnReadLength" = some 4 by kernel_rfl).symm.trans hf) |>.symm
  obtain rfl : fn = Tryd.f4 := (Option.some.inj (Tryd.func4.symm.trans hfn)).symm
  refine ⟨by kernel_rfl, fun j t ht => ?_⟩
  rw [Tryd.params4] at ht
  have hm : t ∈ [25] := by simpa using Array.mem_of_getElem? ht
  have hall : ([25].all fun u => !Tryd.prog.wantsStandIn u) = true := by kernel_rfl
  exact (show Tryd.prog.wantsStandIn t = false by simpa using List.all_eq_true.1 hall t hm)

/-- THE CARD. -/
theorem card : Rows.FnReadLengthCardSaid :=
  Claim7.holds_tied_plain_at .later [] _ _ _ _ said (fun _ h => by cases h) (by kernel_rfl) (fun _ h => by cases h) fnReadLength_row_tie rfl ⟨rfl, rfl⟩ (by kernel_rfl) rfl plain (by kernel_rfl)
end Go.Proofs.YtjaodjeommkjgaaDoor.readLength
