/-
  FnMapRest returns true at every three texts: what '>' stands for goes along as it is. (No condition.)
-/
import Derived.Test.YtocfcajafkkhdaaDoorRs
import Derived.Test.YtocfcajafkkhdaaDoorCards
import Derived.Test.YtocfcajafkkhdaaDoorTie
import Derived.Deep.DeepHandedRow
import Derived.Deep.DeepWitnessRowRef
import Derived.LaidMore
import Derived.LaidHandle
import Derived.Lay
namespace Go.Proofs.YtocfcajafkkhdaaDoor.mapRest
open Go.ChangeShapes Go.WideShapes Go.ChangeAt Go.RowKit
open Go.ChangeMaps (open_string)
open K (Lies Yes)

theorem jn_len : ∀ (ts : List (List UInt8)), (∀ t ∈ ts, t.length ≤ 8) → (jn 46 ts).length ≤ 9 * ts.length
  | [], _ => by simp [jn]
  | [t], h => by have := h t (by simp); simp [jn]; omega
  | t :: u :: ts, h => by
    have h1 := h t (by simp)
    have ih := jn_len (u :: ts) (fun x hx => h x (by simp [hx]))
    rw [jn_cons 46 t (by simp)]
    simp at ih ⊢
    omega
theorem good_size {s : ByteArray} (h : Good s.data.toList) : s.size ≤ 54 := by
  have h1 := jn_len (sp 46 s.data.toList) (fun t ht => (h.2 t ht).2.1)
  rw [jn_sp, K.bsize] at h1
  have := h.1
  omega
theorem sp_with (f : List UInt8) : sp 46 (f ++ [46, 62]) = sp 46 f ++ [[62]] := by
  rw [show f ++ [46, 62] = f ++ 46 :: [62] from rfl, sp_mid]
  rfl
theorem out_eq (t r : ByteArray) : (⟨(jn 46 (sp 46 t.data.toList ++ sp 46 r.data.toList)).toArray⟩ : ByteArray) = t ++ ⟨#[46]⟩ ++ r := by
  rw [jn_append 46 (sp_ne 46 _) (sp_ne 46 _), jn_sp, jn_sp]
  apply ByteArray.ext
  apply Array.ext'
  rw [K.bapp, K.bapp]
  simp
def MapIs (s : ByteArray) (w : World) (e : Ending) (w' : World) : Prop := e = .returned (.tuple #[.string s, .int .i64 0]) ∧ Below w.heap.size w w'
theorem map_front (f t r : ByteArray) (w : World) (hf : Good f.data.toList) (ht : Good t.data.toList) (hr : Good r.data.toList) :
    Calls Tryd.prog 11 #[.string (f ++ ⟨#[46, 62]⟩), .string (t ++ ⟨#[46, 62]⟩), .bool false, .string (f ++ ⟨#[46]⟩ ++ r)] w (MapIs (t ++ ⟨#[46]⟩ ++ r) w) := by
  have sf := good_size hf
  have st := good_size ht
  have sr := good_size hr
  have h := rest_map (f ++ ⟨#[46, 62]⟩) (t ++ ⟨#[46, 62]⟩) (f ++ ⟨#[46]⟩ ++ r) (sp 46 f.data.toList) (sp 46 t.data.toList) (sp 46 r.data.toList) w
    (by rw [ByteArray.size_append]; show f.size + 2 ≤ 1000; omega) (by rw [ByteArray.size_append]; show t.size + 2 ≤ 1000; omega) (by rw [K.bapp]; exact sp_with _) (by rw [K.bapp]; exact sp_with _) hf.2 ht.2 (sp_ne 46 _) hf.1 ht.1
    (by rw [ByteArray.size_append, ByteArray.size_append]; show f.size + 1 + r.size ≤ 1000; omega) (by rw [K.bapp, K.bapp, List.append_assoc]; exact sp_mid 46 _ _) hr.2 (sp_ne 46 _) hr.1
  unfold MapPost at h
  rw [out_eq] at h
  exact h
theorem map_all (t r : ByteArray) (w : World) (ht : Good t.data.toList) (hr : Good r.data.toList) :
    Calls Tryd.prog 11 #[.string ⟨#[62]⟩, .string (t ++ ⟨#[46, 62]⟩), .bool false, .string r] w (MapIs (t ++ ⟨#[46]⟩ ++ r) w) := by
  have st := good_size ht
  have sr := good_size hr
  have h := rest_map ⟨#[62]⟩ (t ++ ⟨#[46, 62]⟩) r [] (sp 46 t.data.toList) (sp 46 r.data.toList) w
    (by decide) (by rw [ByteArray.size_append]; show t.size + 2 ≤ 1000; omega) (by decide) (by rw [K.bapp]; exact sp_with _) (fun u hu => by simp at hu) ht.2 (sp_ne 46 _) (by simp) ht.1
    (by omega) rfl hr.2 (sp_ne 46 _) hr.1
  unfold MapPost at h
  rw [out_eq] at h
  exact h
def CountPost (w : World) (e : Ending) (w' : World) : Prop := ∃ A n cap, e = .returned (.slice A n cap) ∧ n ≤ 12 ∧ Below w.heap.size w w'
theorem toks_count (f r : ByteArray) (w : World) (hf : Good f.data.toList) (hr : Good r.data.toList) : Calls Tryd.prog 14 #[.string (f ++ ⟨#[46]⟩ ++ r)] w (CountPost w) := by
  have sf := good_size hf
  have sr := good_size hr
  have h46 : (⟨#[46]⟩ : ByteArray).size = 1 := rfl
  have hsz : (f ++ ⟨#[46]⟩ ++ r).size ≤ 200 := by rw [ByteArray.size_append, ByteArray.size_append, h46]; omega
  have hsz2 : (f ++ ⟨#[46]⟩ ++ r).size ≤ 2147483647 := Nat.le_trans hsz (by decide)
  have hcount : (sp 46 (f ++ ⟨#[46]⟩ ++ r).data.toList).length ≤ 12 := by
    rw [K.bapp, K.bapp, List.append_assoc, show (⟨#[46]⟩ : ByteArray).data.toList ++ r.data.toList = 46 :: r.data.toList from rfl, sp_mid, List.length_append]
    have := hf.1
    have := hr.1
    omega
  generalize f ++ ⟨#[46]⟩ ++ r = s at hsz2 hcount ⊢
  refine (tokens_any s w hsz2).mono fun e w' h => ?_
  obtain ⟨v, rfl, hb, hown⟩ := h
  obtain ⟨A, cap, rfl, _⟩ := K.lies_of_own hown
  exact ⟨A, _, cap, rfl, hcount, hb⟩
set_option maxHeartbeats 4000000 in
set_option maxRecDepth 100000 in
theorem law_small (f t r : ByteArray) (w : World) (h1 : f.size ≤ 2147483647) (h2 : t.size ≤ 2147483647) (h3 : r.size ≤ 2147483647) : Calls Tryd.prog 4 #[.string f, .string t, .string r] w (Yes w) := by
  have b1 : ¬ (2147483647 : Int) < (f.size : Int) := by omega
  have b2 : ¬ (2147483647 : Int) < (t.size : Int) := by omega
  have b3 : ¬ (2147483647 : Int) < (r.size : Int) := by omega
  go_enter Tryd.func4, Tryd.ntmps4
  go_wp2_with fail
  refine (subj_any f w h1).mono ?_
  rintro e w1 ⟨bf, rfl, hb1, hf⟩
  have hsz1 := hb1.size
  cases bf with
  | false =>
    have HF := Lib.hid hb1
    clear hb1 hf
    go_wp2_with fail
    refine (awake_any w1).mono ?_
    rintro e w2 ⟨rfl, hb2⟩
    go_wp2_with fail
    go_ret
    exact ⟨rfl, HF.out.trans (hb2.mono hsz1)⟩
  | true =>
    have HF := Lib.hid (And.intro hb1 (hf rfl))
    clear hb1 hf
    go_wp2_with fail
    refine (subj_any t w1 h2).mono ?_
    rintro e w2 ⟨bt, rfl, hb2, ht⟩
    cases bt with
    | false =>
      have HT := Lib.hid (HF.out.1.trans (hb2.mono hsz1))
      clear hb2 ht
      go_wp2_with fail
      refine (awake_any w2).mono ?_
      rintro e w3 ⟨rfl, hb3⟩
      go_wp2_with fail
      go_ret
      exact ⟨rfl, HT.out.trans (hb3.mono HT.out.size)⟩
    | true =>
      have HT := Lib.hid (And.intro (HF.out.1.trans (hb2.mono hsz1)) (ht rfl))
      clear hb2 ht
      go_wp2_with fail
      refine (subj_any r w2 h3).mono ?_
      rintro e w3 ⟨br, rfl, hb3, hr⟩
      cases br with
      | false =>
        have HR := Lib.hid (HT.out.1.trans (hb3.mono HT.out.1.size))
        clear hb3 hr
        go_wp2_with fail
        refine (awake_any w3).mono ?_
        rintro e w4 ⟨rfl, hb4⟩
        go_wp2_with fail
        go_ret
        exact ⟨rfl, HR.out.trans (hb4.mono HR.out.size)⟩
      | true =>
        have HR := Lib.hid (HT.out.1.trans (hb3.mono HT.out.1.size))
        have HG := Lib.hid (And.intro HF.out.2 (And.intro HT.out.2 (hr rfl)))
        clear hb3 hr
        go_wp2_with fail
        refine (toks_count f r w3 HG.out.1 HG.out.2.2).mono ?_
        rintro e w4 ⟨A, n, cap, rfl, hn, hb4⟩
        have HB4 := Lib.hid (HR.out.trans (hb4.mono HR.out.size))
        clear hb4
        go_wp2_with fail
        refine (map_front f t r w4 HG.out.1 HG.out.2.1 HG.out.2.2).mono ?_
        rintro e w5 ⟨rfl, hb5⟩
        have HB5 := Lib.hid (HB4.out.trans (hb5.mono HB4.out.size))
        clear hb5
        go_wp2_with fail
        refine (map_all t r w5 HG.out.2.1 HG.out.2.2).mono ?_
        rintro e w6 ⟨rfl, hb6⟩
        have HB6 := Lib.hid (HB5.out.trans (hb6.mono HB5.out.size))
        clear hb6
        go_wp2_with fail
        refine (awake_any w6).mono ?_
        rintro e w7 ⟨rfl, hb7⟩
        have HB7 := Lib.hid (HB6.out.trans (hb7.mono HB6.out.size))
        clear hb7
        go_wp2_with fail
        go_ret
        exact ⟨rfl, HB7.out⟩
set_option maxHeartbeats 4000000 in
set_option maxRecDepth 100000 in
theorem law_any (f t r : ByteArray) (w : World) (m1 : f.size ≤ 9223372036854775807) (m2 : t.size ≤ 9223372036854775807) (m3 : r.size ≤ 9223372036854775807) : Calls Tryd.prog 4 #[.string f, .string t, .string r] w (Yes w) := by
  by_cases h1 : f.size ≤ 2147483647
  · by_cases h2 : t.size ≤ 2147483647
    · by_cases h3 : r.size ≤ 2147483647
      · exact law_small f t r w h1 h2 h3
      · have b1 : ¬ (2147483647 : Int) < (f.size : Int) := by omega
        have b2 : ¬ (2147483647 : Int) < (t.size : Int) := by omega
        have b3 : (2147483647 : Int) < (r.size : Int) := by omega
        clear h1 h2 h3
        go_enter Tryd.func4, Tryd.ntmps4
        go_wp2_with fail
        go_ret
        exact ⟨rfl, Below.refl _ _⟩
    · have b1 : ¬ (2147483647 : Int) < (f.size : Int) := by omega
      have b2 : (2147483647 : Int) < (t.size : Int) := by omega
      clear h1 h2
      go_enter Tryd.func4, Tryd.ntmps4
      go_wp2_with fail
      go_ret
      exact ⟨rfl, Below.refl _ _⟩
  · have b1 : (2147483647 : Int) < (f.size : Int) := by omega
    clear h1
    go_enter Tryd.func4, Tryd.ntmps4
    go_wp2_with fail
    go_ret
    exact ⟨rfl, Below.refl _ _⟩

theorem own : ownKnob Tryd.prog.godebug = none := by kernel_rfl
theorem laidOut : laidOutB Tryd.prog = true := by kernel_rfl

theorem door_met (os : Os) (args : Array Value) : laidMetH Tryd.prog Rows.fnMapRestRow.laid ((World.doorLaid Tryd.prog 199 os).forCall (fun _ _ => 0) ⟨#[], args, []⟩).memory := 
  laidMetH_of_parts3 (fuel := 8) (laidMet_of_run' 8 (by kernel_rfl) (by kernel_rfl)) (by kernel_rfl) (by kernel_rfl)
set_option maxRecDepth 100000 in
theorem reads (os : Os) {H : Type} (enc : TypeId × Value → H) : ∃ places, DataW.whole enc Tryd.prog ((World.doorLaid Tryd.prog 199 os).forCall (fun _ _ => 0) ⟨#[], #[.string .empty, .string .empty, .string .empty], []⟩).memory Tryd.f4.params.toList Rows.fnMapRestSpec.vars false (#[.string .empty, .string .empty, .string .empty] : Array Value).toList 8 = some ([.lit (.string []), .lit (.string []), .lit (.string [])], [], places) :=
  ⟨[], by kernel_rfl⟩

set_option maxRecDepth 100000 in
theorem contract (H : Type) (enc : TypeId × Value → H) (W : World) (args : Array Value) (ds gs : List (DataW H)) (before : List MemPlace)
    (hval : ∀ (j : Nat) t v, Tryd.f4.params[j]? = some t → args[j]? = some v → Value.okWide Tryd.prog W .any 0 t v)
    (hW : DataW.Whole enc Tryd.prog Tryd.f4.params.toList Rows.fnMapRestSpec.vars false W args.toList ds gs before) (_hL : laidMetH Tryd.prog Rows.fnMapRestRow.laid W) :
    Calls Tryd.prog 4 args W fun e W' => ∃ v, e = .returned v ∧ Rows.fnMapRestSpec.post enc Tryd.prog Tryd.f4 false true false false W args v W' := by
  have hW' := hW
  obtain ⟨p, q, hA0, hV, rfl, hfz, hnd⟩ := hW
  have hA : DataW.TrodAll enc Tryd.prog W 0 (fun _ => true) true Tryd.f4.params.toList args.toList ds p := hA0
  rw [Tryd.params4] at hA hval
  obtain ⟨v0, vs0, d0, ds0, p0, q0, hargs, rfl, rfl, h0, r0⟩ := trodAll_cons hA
  obtain ⟨v1, vs1, d1, ds1, p1, q1, rfl, rfl, rfl, h1, r1⟩ := trodAll_cons r0
  obtain ⟨v2, vs2, d2, ds2, p2, q2, rfl, rfl, rfl, h2, r2⟩ := trodAll_cons r1
  obtain ⟨rfl, rfl, rfl⟩ := trodAll_nil r2
  obtain rfl : args = #[v0, v1, v2] := by cases args; simp_all
  obtain ⟨rfl, rfl⟩ := trodVars_none hV
  obtain ⟨s, rfl, rfl, rfl, hs⟩ := open_string Tryd.underlying9 (hval 0 9 v0 rfl rfl) h0
  obtain ⟨t, rfl, rfl, rfl, ht⟩ := open_string Tryd.underlying9 (hval 1 9 v1 rfl rfl) h1
  obtain ⟨r, rfl, rfl, rfl, hr⟩ := open_string Tryd.underlying9 (hval 2 9 v2 rfl rfl) h2
  unfold maxLen at hs ht hr
  refine (law_any s t r W (by omega) (by omega) (by omega)).mono fun e W' ⟨hE, hg⟩ => ?_
  subst hE
  exact ⟨_, rfl, K.post_law (tb := 4) laidOut Tryd.underlying4 rfl (by kernel_rfl) rfl rfl (fun W => ok_one (by kernel_rfl) rfl (okWide_bool_mk Tryd.underlying4 _)) hW' hg⟩

set_option maxRecDepth 100000 in
theorem lifted (os : Os) (started : os.Started) (H : Type) (enc : TypeId × Value → H) (F : Stop.Interp) :
    ReturnsInHanded {} Tryd.checked os 4 .any ((OpenSpec.ofChange Rows.fnMapRestSpec).preRow enc Tryd.prog Tryd.f4 Rows.fnMapRestRow.domain false Rows.fnMapRestRow.laid) (((OpenSpec.ofChange Rows.fnMapRestSpec).at F).post enc Tryd.prog Tryd.f4 false true false false) := by
  obtain ⟨places, hx⟩ := reads os enc
  refine returnsInHanded_of_row (C := Tryd.checked) (s := OpenSpec.ofChange Rows.fnMapRestSpec) own started (by kernel_rfl) Tryd.func4
    (witness_row_atRef (enc := enc) (C := Tryd.checked) false (World.doorLaid Tryd.prog 199 os) #[.string .empty, .string .empty, .string .empty] rfl (by kernel_rfl) (by kernel_rfl) (by kernel_rfl)
      (OpenSpec.preRow_of_cond 8 hx (by kernel_rfl) (fun k hk => by cases hk) (by kernel_rfl) (door_met os _))) ?_
  intro W base args ds gs before hval hW _ hcond _ hL _ _
  exact contract H enc W args ds gs before hval hW hL

theorem said : Rows.FnMapRestSaid :=
  OpenClaim.holds_of_cond 4 Tryd.f4 rfl rfl rfl rfl rfl rfl rfl ⟨rfl, rfl, rfl, rfl, rfl⟩ rfl rfl rfl rfl rfl (by kernel_rfl) Tryd.func4 (by kernel_rfl)
    (of_decide_eq_true (by kernel_rfl)) (by unfold Func.isWrapper; first | (rw [if_pos (by decide +kernel)]; kernel_rfl) | (rw [if_neg (by decide +kernel)]; exact ⟨rfl, rfl⟩))
    (fun os started H enc _ F => by rw [OpenClaim.pre_eq_preRow]; exact lifted os started H enc F)

theorem plain (f : FuncId) (fn : Func) (hf : Tryd.pinned.checked.prog.funcNamed "pub-streamkeep/laws.FnMapRest" = some f) (hfn : Tryd.pinned.checked.prog.funcs[f]? = some fn) :
    true = Tryd.pinned.checked.prog.looks [] ∧ ∀ (j : Nat) t, fn.params[j]? = some t → Tryd.pinned.checked.prog.wantsStandIn t = false := by
  obtain rfl : f = 4 := Option.some.inj ((show Tryd.prog.funcNamed "pub-streamkeep/laws.FnMapRest" = some 4 by kernel_rfl).symm.trans hf) |>.symm
  obtain rfl : fn = Tryd.f4 := (Option.some.inj (Tryd.func4.symm.trans hfn)).symm
  refine ⟨by kernel_rfl, fun j t ht => ?_⟩
  rw [Tryd.params4] at ht
  have hm : t ∈ [9, 9, 9] := by simpa using Array.mem_of_getElem? ht
  have hall : ([9, 9, 9].all fun u => !Tryd.prog.wantsStandIn u) = true := by kernel_rfl
  exact (show Tryd.prog.wantsStandIn t = false by simpa using List.all_eq_true.1 hall t hm)

/-- THE CARD. -/
theorem card : Rows.FnMapRestCardSaid :=
  Claim7.holds_tied_plain_at .later [] _ _ _ _ said (fun _ h => by cases h) (by kernel_rfl) (fun _ h => by cases h) fnMapRest_row_tie rfl ⟨rfl, rfl⟩ (by kernel_rfl) rfl plain (by kernel_rfl)

end Go.Proofs.YtocfcajafkkhdaaDoor.mapRest
