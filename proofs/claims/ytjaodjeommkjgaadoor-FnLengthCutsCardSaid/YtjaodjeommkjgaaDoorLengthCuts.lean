/-
  FnLengthCuts holds: a remaining length is read the same wherever its bytes are cut. For every text and every list of cuts that the row lets in (no condition of ours).
-/
import Derived.Test.YtjaodjeommkjgaaDoorLen
import Derived.Test.YtjaodjeommkjgaaDoorCards
import Derived.Test.YtjaodjeommkjgaaDoorTie
import Derived.Deep.DeepHandedRow
import Derived.Deep.DeepWitnessRowRef
import Derived.LaidMore
import Derived.LaidHandle
namespace Go.Proofs.YtjaodjeommkjgaaDoor.lengthCuts
open Go.ChangeShapes Go.WideShapes Go.ChangeAt Go.RowKit
open Go.ChangeMaps (open_string)
open K (Lies Yes lies_one lies_two)


theorem info9 : (Tryd.prog.info? 9).map (fun i => (i.zero, i.size, i.bytes)) = some (some (.string ByteArray.empty), 1, 16) := by kernel_rfl

/-- int(uint(z) % uint(n+1)) is a number from 0 to n. -/
theorem cut_at (z : Int) (n : Nat) (hn : n ≤ 1000000) : ∃ m : Nat, m ≤ n ∧ wrap64 ((IntKind.u64.wrap z).tmod ((n : Int) + 1)) = (m : Int) := by
  have h0 : 0 ≤ IntKind.u64.wrap z := by
    unfold IntKind.wrap
    simp only [IntKind.signed, IntKind.bits]
    simp
    omega
  have h1 : (IntKind.u64.wrap z).tmod ((n : Int) + 1) = IntKind.u64.wrap z % ((n : Int) + 1) := Int.tmod_eq_emod_of_nonneg h0
  have h2 : 0 ≤ IntKind.u64.wrap z % ((n : Int) + 1) := Int.emod_nonneg _ (by omega)
  have h3 : IntKind.u64.wrap z % ((n : Int) + 1) < (n : Int) + 1 := Int.emod_lt_of_pos _ (by omega)
  refine ⟨(IntKind.u64.wrap z % ((n : Int) + 1)).toNat, by omega, ?_⟩
  rw [h1]
  unfold wrap64
  omega

/-- a slice of texts of the call's own, that are s when joined -/
def PiecesPost (s : List UInt8) (n : Nat) (w : World) (e : Ending) (w' : World) : Prop :=
  ∃ A cap ss, e = .returned (.slice A (n + 1) cap) ∧ ss.length = n + 1 ∧ Lies w' A (n + 1) (K.strs ss) ∧ Vi.join (bytes ss) = s ∧ Below w.heap.size w w'

theorem strs_of_map (ss : List ByteArray) (j : Nat) (h : j < ss.length) : (ss.map Value.string).getD j undef = K.strs ss j := by
  simp [K.strs, List.getD, h]

theorem ext_join (t : ByteArray) (m : Nat) (_hm : m ≤ t.size) : (t.extract 0 m).data.toList ++ (t.extract m t.size).data.toList = t.data.toList := by
  rw [← K.bapp]
  congr 2
  rw [ByteArray.extract_append_extract]
  simp

set_option maxRecDepth 100000 in
theorem pieces_any (s : ByteArray) (zs : List Int) (n cap : Nat) (A : Option Addr) (w : World) (hlen : zs.length = n) (hn6 : n ≤ 6) (hs : s.size ≤ 600) (hl : Lies w A n (K.nums .i64 zs)) (hz : ∀ z ∈ zs, -9223372036854775808 ≤ z ∧ z ≤ 9223372036854775807) :
  Calls Tryd.prog 9 #[.string s, .slice A n cap] w (PiecesPost s.data.toList n w) := by
  have HL := Lib.hid hlen
  have HC := Lib.hid hl
  have HZ := Lib.hid hz
  clear hlen hl hz
  obtain ⟨i0, hi0, hz0, hz1, hz2⟩ := info_parts info9
  have HI0 := Lib.hid hi0
  have HI1 := Lib.hid hz0
  have HI2 := Lib.hid hz1
  have HI3 := Lib.hid hz2
  clear hi0 hz0 hz1 hz2
  go_enter Tryd.func9, Tryd.ntmps9
  go_wp2_with fail
  go_loopg [0, 5, 6] n (fun gk sv v i wr => ∃ (k : Nat) (t : ByteArray) (ss : List ByteArray), gk + k = n ∧ i = .int .i64 k ∧ sv = .string t ∧ t.size ≤ 600 ∧ ss.length = k ∧
     wr.ownsRow w.heap.size 9 1 v k (ss.map Value.string) ∧ Vi.join (bytes ss) ++ t.data.toList = s.data.toList ∧ Below w.heap.size w wr)
  case atStart => exact ⟨0, s, [], by omega, rfl, rfl, hs, rfl, World.ownsRow_nil _ _ _ _, rfl, Below.refl _ _⟩
  case round =>
    obtain ⟨k, t, ss, hk1, rfl, rfl, ht, hss, hown, hj, hb⟩ := hrel
    have HSS := Lib.hid hss
    have HJ := Lib.hid hj
    have HK := Lib.hid hk1
    have HO := Lib.hid hown
    have hk : k ≤ n := by omega
    have hbs := hb.size
    clear hss hj hk1 hown
    by_cases hlt : k < n
    · obtain ⟨ab, ao, rfl, hab, hcs⟩ := HC.out (by omega)
      have c2 : wr.cell? ⟨ab, ao + k, none⟩ = some (.int .i64 (zs.getD k 0)) := (hb.cell hab).trans (hcs k hlt)
      have hzk := HZ.out (zs.getD k 0) (by rw [List.getD, List.getElem?_eq_getElem (by rw [HL.out]; exact hlt)]; exact List.getElem_mem _)
      generalize zs.getD k 0 = z at c2 hzk
      obtain ⟨m, hm, he⟩ := cut_at z t.size (by omega)
      clear hcs
      go_wp2_with (at_builtin; refine wpList_append_own _ rfl (.tmp 29) (.tmp 33) 25 rfl w.heap.size 9 i0 (.string ByteArray.empty) 1 16 Tryd.underlying25 HI0.out HI1.out HI2.out HI3.out rfl (by decide) _ _ _ rfl (HO.out.alloc _) ⟨wr.heap.size, 0, none⟩ 1 1 [.string (t.extract 0 m)] rfl rfl (K.cells_one _ _ _) (by intro u hu; simp at hu; subst hu; rfl) (by unfold maxLen; omega) (by omega) (by simp; omega) ?_; intro v1 w1 hown1 hgrow1 h; clear h)
      have hb1 : Below w.heap.size w w1 := (hb.alloc hbs _).grown hgrow1 (by simp; omega) (fun j hj => (HO.out.lt j hj).1)
      have HO1 := Lib.hid hown1
      clear hown1 hgrow1
      go_wp2_with fail
      go_roundg (gk - 1)
      case measure => have := HK.out; omega
      case rel =>
        refine ⟨k + 1, t.extract m t.size, ss ++ [t.extract 0 m], by have := HK.out; omega, by go_num, rfl, by simp; omega, by simp [HSS.out], ?_, ?_, hb1⟩
        · have := HO1.out; rw [List.map_append]; exact this
        · rw [← HJ.out, ← ext_join t m hm]
          simp only [bytes, Vi.join, List.map_append, List.map_cons, List.map_nil, List.flatten_append, List.flatten_cons, List.flatten_nil, List.append_nil, List.append_assoc]
    · have hkn : k = n := by omega
      subst hkn
      go_wp2_with (at_builtin; refine wpList_append_own _ rfl (.tmp 38) (.tmp 40) 25 rfl w.heap.size 9 i0 (.string ByteArray.empty) 1 16 Tryd.underlying25 HI0.out HI1.out HI2.out HI3.out rfl (by decide) _ _ _ rfl (HO.out.alloc _) ⟨wr.heap.size, 0, none⟩ 1 1 [.string t] rfl rfl (K.cells_one _ _ _) (by intro u hu; simp at hu; subst hu; rfl) (by unfold maxLen; omega) (by omega) (by simp; omega) ?_; intro v1 w1 hown1 hgrow1 h; clear h)
      have hb1 : Below w.heap.size w w1 := (hb.alloc hbs _).grown hgrow1 (by simp; omega) (fun j hj => (HO.out.lt j hj).1)
      obtain ⟨A1, cap1, rfl, _, hlen1, hl1, _⟩ := K.lies_of_own hown1
      have HL1 := Lib.hid hl1
      clear hown1 hgrow1 hl1 hlen1
      go_wp2_with fail
      go_ret
      refine ⟨A1, cap1, ss ++ [t], rfl, by simp [HSS.out], ?_, ?_, hb1⟩
      · have h := HL1.out
        have e : (List.map Value.string ss ++ [Value.string t]) = (ss ++ [t]).map Value.string := by simp
        rw [e] at h
        intro hn
        obtain ⟨x, y, h1, h2, h3⟩ := h hn
        exact ⟨x, y, h1, h2, fun j hj => (h3 j hj).trans (congrArg some (strs_of_map _ _ (by simp [HSS.out]; omega)))⟩
      · rw [← HJ.out]
        simp only [bytes, Vi.join, List.map_append, List.map_cons, List.map_nil, List.flatten_append, List.flatten_cons, List.flatten_nil, List.append_nil]
theorem rl_8001 : Vi.rl [] (bytes [⟨#[128]⟩, ⟨#[1]⟩]) = (128, 2, true) := by decide
theorem sum_8001 : (Vi.join (bytes [⟨#[128]⟩, ⟨#[1]⟩])).length ≤ 1000000 := by decide
theorem join_one (s : ByteArray) : Vi.join (bytes [s]) = s.data.toList := by simp [bytes, Vi.join]

set_option maxRecDepth 100000 in
theorem law_any (s : ByteArray) (zs : List Int) (n cap : Nat) (A : Option Addr) (w : World) (hlen : zs.length = n) (hn63 : n ≤ 9223372036854775807) (hs63 : s.size ≤ 9223372036854775807) (hl : Lies w A n (K.nums .i64 zs))
    (hz : ∀ z ∈ zs, -9223372036854775808 ≤ z ∧ z ≤ 9223372036854775807)
    (te : TypeId) (ve : Value) (he : w.cell? ⟨0, 0, none⟩ = some (.iface te ve)) (h0 : 0 < w.heap.size) :
  Calls Tryd.prog 3 #[.string s, .slice A n cap] w (Yes w) := by
  have HL := Lib.hid hlen
  have HC := Lib.hid hl
  have HZ := Lib.hid hz
  clear hlen hl hz
  by_cases hsm : s.size ≤ 20 ∧ n ≤ 6
  · obtain ⟨hs, hn⟩ := hsm
    have hj1 : (Vi.join (bytes [s])).length ≤ 1000000 := by rw [join_one, K.bsize]; omega
    have HJ1 := Lib.hid hj1
    clear hj1
    go_enter Tryd.func3, Tryd.ntmps3
    go_wp2_with fail
    refine (readLength_any [s] 1 1 _ _ rfl (by omega) (lies_one _ _ _) HJ1.out te ve ?_ (by simp)).mono ?_
    · rw [World.cell?_alloc_past _ _ _ (by exact h0)]; exact he
    rintro e w1 ⟨rfl, hb1⟩
    have hb2 : Below w.heap.size w w1 := ((Below.refl _ _).alloc (Nat.le_refl _) _).trans (hb1.mono (by simp))
    have hl1 : Lies w1 A n (K.nums .i64 zs) := HC.out.below hb2 (Nat.le_refl _)
    have HL1 := Lib.hid hl1
    have hrl1 := Vi.rl_join (bytes [s])
    rw [join_one] at hrl1
    rw [hrl1]
    obtain ⟨⟨v, u, ok⟩, hr⟩ : ∃ r, r = Vi.answer (Vi.read s.data.toList) := ⟨_, rfl⟩
    rw [← hr]
    have HR := Lib.hid hr
    clear hb1 hl1 hrl1 hr
    simp only [rlVal]
    go_wp2_with fail
    refine (pieces_any s zs n cap A w1 HL.out hn (by omega) HL1.out HZ.out).mono ?_
    rintro e w2 ⟨A2, cap2, ss, rfl, hss, hl2, hj, hb3⟩
    have hb4 : Below w.heap.size w w2 := hb2.trans (hb3.mono hb2.size)
    have HSS := Lib.hid hss
    have HL2 := Lib.hid hl2
    have HJ := Lib.hid hj
    clear hss hl2 hj hb3
    go_wp2_with fail
    refine (readLength_any ss (n + 1) cap2 A2 w2 HSS.out (by omega) HL2.out (by rw [HJ.out, K.bsize]; omega) te ve ?_ (Nat.lt_of_lt_of_le h0 hb4.size)).mono ?_
    · rw [← he]; exact hb4.cell h0
    rintro e w3 ⟨rfl, hb5⟩
    have hb6 : Below w.heap.size w w3 := hb4.trans (hb5.mono hb4.size)
    have hs3 := hb6.size
    have h03 : 0 < w3.heap.size := by omega
    have he3 : w3.cell? ⟨0, 0, none⟩ = some (.iface te ve) := by rw [← he]; exact hb6.cell h0
    rw [Vi.rl_join, HJ.out, ← HR.out]
    clear hb5
    simp only [rlVal]
    go_wp2_with fail
    refine (readLength_any [⟨#[128]⟩, ⟨#[1]⟩] 2 2 _ _ rfl (by omega) (lies_two _ _ _ _) sum_8001 te ve ?_ (by simp)).mono ?_
    · rw [World.cell?_alloc_past _ _ _ (by exact h03)]; exact he3
    rintro e w4 ⟨rfl, hb7⟩
    have hb8 : Below w.heap.size w w4 := (hb6.alloc hs3 _).trans (hb7.mono (by simp; omega))
    rw [rl_8001]
    clear hb7
    simp only [rlVal]
    cases ok with
    | true =>
      go_wp2_with fail
      go_ret
      exact ⟨rfl, hb8⟩
    | false =>
      go_wp2_with fail
      go_ret
      exact ⟨rfl, hb8⟩
  · go_enter Tryd.func3, Tryd.ntmps3
    go_wp2_with fail
    all_goals go_ret
    all_goals exact ⟨rfl, Below.refl _ _⟩

theorem own : ownKnob Tryd.prog.godebug = none := by kernel_rfl
theorem laidOut : laidOutB Tryd.prog = true := by kernel_rfl
theorem gErr : Tryd.prog.globalNamed "pub-streamkeep/pub/natsserver/server.errMQTTMalformedVarInt" = some 0 := by kernel_rfl
theorem gErrType : (Tryd.prog.globals[0]?).map (·.type) = some 45 := by kernel_rfl
/-- what the row's list gives: the sentinel holds an error that is not nil -/
theorem sentinel {W : World} (h : laidMetH Tryd.prog Rows.fnLengthCutsRow.laid W) : ∃ te ve, W.cell? ⟨0, 0, none⟩ = some (.iface te ve) := by
  rw [MakeChecks.laidMetH_plain _ _ _ (by kernel_rfl)] at h
  exact K.laid_iface h gErr gErrType Tryd.underlying45
theorem door_met (os : Os) (args : Array Value) : laidMetH Tryd.prog Rows.fnLengthCutsRow.laid ((World.doorLaid Tryd.prog 95 os).forCall (fun _ _ => 0) ⟨#[], args, []⟩).memory :=
  laidMetH_of_parts3 (fuel := 8) (laidMet_of_run' 8 (by kernel_rfl) (by kernel_rfl)) (by kernel_rfl) (by kernel_rfl)
set_option maxRecDepth 100000 in
theorem reads (os : Os) {H : Type} (enc : TypeId × Value → H) : ∃ places, DataW.whole enc Tryd.prog ((World.doorLaid Tryd.prog 95 os).forCall (fun _ _ => 0) ⟨#[], #[.string .empty, .slice none 0 0], []⟩).memory Tryd.f3.params.toList Rows.fnLengthCutsSpec.vars false (#[.string .empty, .slice none 0 0] : Array Value).toList 8 = some ([.lit (.string []), .nil], [], places) :=
  ⟨[], by kernel_rfl⟩

set_option maxRecDepth 100000 in
theorem contract (H : Type) (enc : TypeId × Value → H) (W : World) (args : Array Value) (ds gs : List (DataW H)) (before : List MemPlace)
    (hval : ∀ (j : Nat) t v, Tryd.f3.params[j]? = some t → args[j]? = some v → Value.okWide Tryd.prog W .any 0 t v)
    (hW : DataW.Whole enc Tryd.prog Tryd.f3.params.toList Rows.fnLengthCutsSpec.vars false W args.toList ds gs before) (hL : laidMetH Tryd.prog Rows.fnLengthCutsRow.laid W) :
    Calls Tryd.prog 3 args W fun e W' => ∃ v, e = .returned v ∧ Rows.fnLengthCutsSpec.post enc Tryd.prog Tryd.f3 false true false false W args v W' := by
  have hW' := hW
  obtain ⟨p, q, hA0, hV, rfl, hfz, hnd⟩ := hW
  have hA : DataW.TrodAll enc Tryd.prog W 0 (fun _ => true) true Tryd.f3.params.toList args.toList ds p := hA0
  rw [Tryd.params3] at hA hval
  obtain ⟨v0, vs0, d0, ds0, p0, q0, hargs, rfl, rfl, h0, r0⟩ := trodAll_cons hA
  obtain ⟨v1, vs1, d1, ds1, p1, q1, rfl, rfl, rfl, h1, r1⟩ := trodAll_cons r0
  obtain ⟨rfl, rfl, rfl⟩ := trodAll_nil r1
  obtain rfl : args = #[v0, v1] := by cases args; simp_all
  obtain ⟨rfl, rfl⟩ := trodVars_none hV
  obtain ⟨s, rfl, rfl, rfl, hs⟩ := open_string Tryd.underlying9 (hval 0 9 v0 rfl rfl) h0
  obtain ⟨A, n, cap, zs, rfl, hlen, hmax, hl, hwf, _⟩ := K.open_nums Tryd.underlying22 Tryd.underlying3 (by kernel_rfl) (hval 1 22 v1 rfl rfl) h1
  obtain ⟨te, ve, he⟩ := sentinel hL
  have hz : ∀ z ∈ zs, -9223372036854775808 ≤ z ∧ z ≤ 9223372036854775807 := fun z hz => by
    have := hwf z hz
    simpa [Lit.wf, IntKind.min, IntKind.max, IntKind.signed, IntKind.bits] using this
  unfold maxLen at hmax hs
  refine (law_any s zs n cap A W hlen (by omega) (by omega) hl hz te ve he (World.block_lt_of_cell? W _ he)).mono fun e W' ⟨hE, hg⟩ => ?_
  subst hE
  exact ⟨_, rfl, K.post_law (tb := 4) laidOut Tryd.underlying4 rfl (by kernel_rfl) rfl rfl (fun W => ok_one (by kernel_rfl) rfl (okWide_bool_mk Tryd.underlying4 _)) hW' hg⟩

set_option maxRecDepth 100000 in
theorem lifted (os : Os) (started : os.Started) (H : Type) (enc : TypeId × Value → H) (F : Stop.Interp) :
    ReturnsInHanded {} Tryd.checked os 3 .any ((OpenSpec.ofChange Rows.fnLengthCutsSpec).preRow enc Tryd.prog Tryd.f3 Rows.fnLengthCutsRow.domain false Rows.fnLengthCutsRow.laid) (((OpenSpec.ofChange Rows.fnLengthCutsSpec).at F).post enc Tryd.prog Tryd.f3 false true false false) := by
  obtain ⟨places, hx⟩ := reads os enc
  refine returnsInHanded_of_row (C := Tryd.checked) (s := OpenSpec.ofChange Rows.fnLengthCutsSpec) own started (by kernel_rfl) Tryd.func3
    (witness_row_atRef (enc := enc) (C := Tryd.checked) false (World.doorLaid Tryd.prog 95 os) #[.string .empty, .slice none 0 0] rfl (by kernel_rfl) (by kernel_rfl) (by kernel_rfl)
      (OpenSpec.preRow_of_cond 8 hx (by kernel_rfl) (fun k hk => by cases hk) (by kernel_rfl) (door_met os _))) ?_
  intro W base args ds gs before hval hW _ hcond _ hL _ _
  exact contract H enc W args ds gs before hval hW hL

theorem said : Rows.FnLengthCutsSaid :=
  OpenClaim.holds_of_cond 3 Tryd.f3 rfl rfl rfl rfl rfl rfl rfl ⟨rfl, rfl, rfl, rfl, rfl⟩ rfl rfl rfl rfl rfl (by kernel_rfl) Tryd.func3 (by kernel_rfl)
    (of_decide_eq_true (by kernel_rfl)) (by unfold Func.isWrapper; first | (rw [if_pos (by decide +kernel)]; kernel_rfl) | (rw [if_neg (by decide +kernel)]; exact ⟨rfl, rfl⟩))
    (fun os started H enc _ F => by rw [OpenClaim.pre_eq_preRow]; exact lifted os started H enc F)

theorem plain (f : FuncId) (fn : Func) (hf : Tryd.pinned.checked.prog.funcNamed "pub-streamkeep/laws.FnLengthCuts" = some f) (hfn : Tryd.pinned.checked.prog.funcs[f]? = some fn) :
    false = Tryd.pinned.checked.prog.looks [] ∧ ∀ (j : Nat) t, fn.params[j]? = some t → Tryd.pinned.checked.prog.wantsStandIn t = false := by
  obtain rfl : f = 3 := Option.some.inj ((show Tryd.prog.funcNamed "pub-streamkeep/laws.FnLengthCuts" = some 3 by kernel_rfl).symm.trans hf) |>.symm
  obtain rfl : fn = Tryd.f3 := (Option.some.inj (Tryd.func3.symm.trans hfn)).symm
  refine ⟨by kernel_rfl, fun j t ht => ?_⟩
  rw [Tryd.params3] at ht
  have hm : t ∈ [9, 22] := by simpa using Array.mem_of_getElem? ht
  have hall : ([9, 22].all fun u => !Tryd.prog.wantsStandIn u) = true := by kernel_rfl
  exact (show Tryd.prog.wantsStandIn t = false by simpa using List.all_eq_true.1 hall t hm)

/-- THE CARD. -/
theorem card : Rows.FnLengthCutsCardSaid :=
  Claim7.holds_tied_plain_at .later [] _ _ _ _ said (fun _ h => by cases h) (by kernel_rfl) (fun _ h => by cases h) fnLengthCuts_row_tie rfl ⟨rfl, rfl⟩ (by kernel_rfl) rfl plain (by kernel_rfl)

end Go.Proofs.YtjaodjeommkjgaaDoor.lengthCuts
