/-
  TransformTokenizedSubject: slices from the left. Printed by wip/py/gen_tp.py.
  TransformTokenizedSubject: slices from the right. Printed by wip/py/gen_tp.py.
-/
import Derived.Test.YtocfcajafkkhdaaDoorZTp
/- Tq6 -/
section
namespace Go.Proofs.YtocfcajafkkhdaaDoor
open Go.RowKit

set_option maxHeartbeats 4000000 in
set_option maxRecDepth 1000000 in
theorem round6zB (w wr : World) (p tg tn n : Nat) (T : Option Addr) (cTn : Nat) (x : Nat → Value) (j N : Nat) (tb : ByteArray) (acc : List UInt8) (hN1 : 1 ≤ N) (hN2 : N ≤ 1000) (_hsz : tb.size ≤ 1000) (hacc : acc.length ≤ 90000000) (hiN : 0 % N = 0) (hle : 0 + N ≤ tb.size) (hB : 0 + N + N ≤ tb.size) (HV : Hid (TrRel w (acc ++ dots (cL N) tb.data.toList 0) wr))
    (J KK : Act → World → Prop) (hJ : ∀ a wv, (∃ y, a = ⟨(I33 p tg tn w.heap.size n T cTn y j tb N N).toArray, []⟩) → TrRel w (acc ++ dots (cL N) tb.data.toList N) wv → J a wv) :
    (cl loop6C).wp Tryd.prog (Exit.then J (Exit.inBlock 6 (Ends KK))) ⟨(I33 p tg tn w.heap.size n T cTn x j tb N 0).toArray, []⟩ wr := by
  have HK := Lib.hid hJ
  clear hJ
  have hdl := dots_len (cL N) tb.data.toList 0
  have hrun := dots_run (cL N) tb.data.toList 0 N hN1 (fun a h1 h2 => cL_no hiN h1 h2)
  have q0 : (N : Int) ≤ (tb.size : Int) := by omega
  have q1 : ((N : Int)).toNat = N := by omega
  have q2 : (0 : Int) ≤ (N : Int) := by omega
  have hc : cL N 0 = false := by unfold cL; simp
  have HRUN := Lib.hid (And.intro hrun hc)
  clear hrun hc
  conv => arg 2; whnf
  unfold I33
  have hw := (HV.out).str (tb.extract 0 N) (by simp only [List.length_append]; omega) (by simp only [ByteArray.size_extract]; omega)
  go_wp2_with fail
  with_reducible refine hw.mono ?_
  rintro e v1 ⟨rfl, hr⟩
  clear hw
  have G1 := Lib.hid (show TrRel w (acc ++ dots (cL N) tb.data.toList (0 + N)) v1 from by
    rw [HRUN.out.1, HRUN.out.2]
    simpa [ext_data, List.append_assoc] using hr)
  clear hr
  have a1 : (((N : Int)) == (tb.size : Int)) = false := by rw [beq_eq_false_iff_ne]; omega
  have a2 : ¬ (N : Int) = (tb.size : Int) := by omega
  have a3 : ¬ (tb.size : Int) < (N : Int) + (N : Int) := by omega
  go_wp2_with fail
  refine HK.out _ _ (back_I33 (i := N) ?_) ?_
  · kernel_rfl
  · have h9 := G1.out
    rw [Nat.zero_add] at h9
    exact h9
set_option maxHeartbeats 4000000 in
set_option maxRecDepth 1000000 in
theorem round6zC (w wr : World) (p tg tn n : Nat) (T : Option Addr) (cTn : Nat) (x : Nat → Value) (j N : Nat) (tb : ByteArray) (acc : List UInt8) (hN1 : 1 ≤ N) (hN2 : N ≤ 1000) (hsz : tb.size ≤ 1000) (hacc : acc.length ≤ 90000000) (hiN : 0 % N = 0) (_hle : 0 + N ≤ tb.size) (hC1 : 0 + N < tb.size) (hC2 : tb.size < 0 + N + N) (HV : Hid (TrRel w (acc ++ dots (cL N) tb.data.toList 0) wr))
    (J KK : Act → World → Prop) (hK : ∀ a wv, (∃ y, a = ⟨(E33 p tg tn w.heap.size n T cTn y j ).toArray, []⟩) → TrRel w (acc ++ (dots (cL N) tb.data.toList tb.size)) wv → KK a wv) :
    (cl loop6C).wp Tryd.prog (Exit.then J (Exit.inBlock 6 (Ends KK))) ⟨(I33 p tg tn w.heap.size n T cTn x j tb N 0).toArray, []⟩ wr := by
  have HK := Lib.hid hK
  clear hK
  have hdl := dots_len (cL N) tb.data.toList 0
  have hrun := dots_run (cL N) tb.data.toList 0 N hN1 (fun a h1 h2 => cL_no hiN h1 h2)
  have q0 : (N : Int) ≤ (tb.size : Int) := by omega
  have q1 : ((N : Int)).toNat = N := by omega
  have q2 : (0 : Int) ≤ (N : Int) := by omega
  have hc : cL N 0 = false := by unfold cL; simp
  have HRUN := Lib.hid (And.intro hrun hc)
  clear hrun hc
  conv => arg 2; whnf
  unfold I33
  have hw := (HV.out).str (tb.extract 0 N) (by simp only [List.length_append]; omega) (by simp only [ByteArray.size_extract]; omega)
  go_wp2_with fail
  with_reducible refine hw.mono ?_
  rintro e v1 ⟨rfl, hr⟩
  clear hw
  have G1 := Lib.hid (show TrRel w (acc ++ dots (cL N) tb.data.toList (0 + N)) v1 from by
    rw [HRUN.out.1, HRUN.out.2]
    simpa [ext_data, List.append_assoc] using hr)
  clear hr
  have a1 : (((N : Int)) == (tb.size : Int)) = false := by rw [beq_eq_false_iff_ne]; omega
  have a2 : ¬ (N : Int) = (tb.size : Int) := by omega
  have a3 : (tb.size : Int) < (N : Int) + (N : Int) := by omega
  have hiN2 : (0 + N) % N = 0 := by rw [Nat.add_mod_right]; exact hiN
  have hrest := dots_run (cL N) tb.data.toList (0 + N) (tb.size - (0 + N)) (by omega) (fun a h1 h2 => cL_no hiN2 h1 (by omega))
  have hc2 : cL N (0 + N) = true := by unfold cL; simp; omega
  have HRS := Lib.hid (And.intro hrest hc2)
  clear hrest hc2
  have hdl2 := dots_len (cL N) tb.data.toList (0 + N)
  have hw := G1.out.dot (by simp only [List.length_append]; omega)
  go_wp2_with fail
  with_reducible refine hw.mono ?_
  rintro e v2 ⟨rfl, hr⟩
  clear hw
  have G2 := Lib.hid hr
  clear hr
  have hw := G2.out.str (tb.extract N tb.size) (by simp only [List.length_append, List.length_singleton]; omega) (by simp only [ByteArray.size_extract]; omega)
  go_wp2_with fail
  with_reducible refine hw.mono ?_
  rintro e v3 ⟨rfl, hr⟩
  clear hw
  have G3 := Lib.hid hr
  clear hr
  go_wp2_with fail
  refine HK.out _ _ (back_E33 ?_) ?_
  · kernel_rfl
  · have hr := G3.out
    have hre : tb.size = 0 + N + (tb.size - (0 + N)) := by omega
    rw [show dots (cL N) tb.data.toList tb.size = dots (cL N) tb.data.toList (0 + N + (tb.size - (0 + N))) from by rw [← hre], HRS.out.1, HRS.out.2]
    simp only [tail_data] at hr
    rw [List.take_of_length_le (by rw [List.length_drop, K.bsize]; omega)]
    simpa [List.append_assoc] using hr
set_option maxHeartbeats 4000000 in
set_option maxRecDepth 1000000 in
theorem round6nA (w wr : World) (p tg tn n : Nat) (T : Option Addr) (cTn : Nat) (x : Nat → Value) (j N i : Nat) (tb : ByteArray) (acc : List UInt8) (hN1 : 1 ≤ N) (hN2 : N ≤ 1000) (hsz : tb.size ≤ 1000) (hacc : acc.length ≤ 90000000) (hiN : i % N = 0) (hle : i + N ≤ tb.size) (hi0 : i ≠ 0) (hA : i + N = tb.size) (HV : Hid (TrRel w (acc ++ dots (cL N) tb.data.toList i) wr))
    (J KK : Act → World → Prop) (hJ : ∀ a wv, (∃ y, a = ⟨(I33 p tg tn w.heap.size n T cTn y j tb N tb.size).toArray, []⟩) → TrRel w (acc ++ dots (cL N) tb.data.toList tb.size) wv → J a wv) :
    (cl loop6C).wp Tryd.prog (Exit.then J (Exit.inBlock 6 (Ends KK))) ⟨(I33 p tg tn w.heap.size n T cTn x j tb N i).toArray, []⟩ wr := by
  have HK := Lib.hid hJ
  clear hJ
  have hdl := dots_len (cL N) tb.data.toList i
  have hrun := dots_run (cL N) tb.data.toList i N hN1 (fun a h1 h2 => cL_no hiN h1 h2)
  have q0 : (i : Int) + (N : Int) ≤ (tb.size : Int) := by omega
  have q1 : ((i : Int) + (N : Int)).toNat = i + N := by omega
  have q2 : (i : Int) ≤ (i : Int) + (N : Int) := by omega
  have b0 : ((i : Int) == 0) = false := by rw [beq_eq_false_iff_ne]; omega
  have hc : cL N i = true := by unfold cL; simp [hiN]; omega
  have HRUN := Lib.hid (And.intro hrun hc)
  clear hrun hc
  have HA := Lib.hid hA
  clear hA
  conv => arg 2; whnf
  unfold I33
  have hw := HV.out.dot (by simp only [List.length_append]; omega)
  go_wp2_with fail
  with_reducible refine hw.mono ?_
  rintro e v0 ⟨rfl, hr⟩
  clear hw
  have G0 := Lib.hid hr
  clear hr
  have hw := (G0.out).str (tb.extract i (i + N)) (by simp only [List.length_append, List.length_singleton]; omega) (by simp only [ByteArray.size_extract]; omega)
  go_wp2_with fail
  with_reducible refine hw.mono ?_
  rintro e v1 ⟨rfl, hr⟩
  clear hw
  have G1 := Lib.hid (show TrRel w (acc ++ dots (cL N) tb.data.toList (i + N)) v1 from by
    rw [HRUN.out.1, HRUN.out.2]
    simpa [ext_data, List.append_assoc] using hr)
  clear hr
  have hA := HA.out
  have a1 : (((i : Int) + (N : Int)) == (tb.size : Int)) = true := by rw [beq_iff_eq]; omega
  have a2 : (i : Int) + (N : Int) = (tb.size : Int) := by omega
  clear hA
  go_wp2_with fail
  refine HK.out _ _ (back_I33 (i := tb.size) ?_) ?_
  · kernel_rfl
  · rw [← HA.out]; exact G1.out
set_option maxHeartbeats 4000000 in
set_option maxRecDepth 1000000 in
theorem round6nB (w wr : World) (p tg tn n : Nat) (T : Option Addr) (cTn : Nat) (x : Nat → Value) (j N i : Nat) (tb : ByteArray) (acc : List UInt8) (hN1 : 1 ≤ N) (hN2 : N ≤ 1000) (hsz : tb.size ≤ 1000) (hacc : acc.length ≤ 90000000) (hiN : i % N = 0) (hle : i + N ≤ tb.size) (hi0 : i ≠ 0) (hB : i + N + N ≤ tb.size) (HV : Hid (TrRel w (acc ++ dots (cL N) tb.data.toList i) wr))
    (J KK : Act → World → Prop) (hJ : ∀ a wv, (∃ y, a = ⟨(I33 p tg tn w.heap.size n T cTn y j tb N (i + N)).toArray, []⟩) → TrRel w (acc ++ dots (cL N) tb.data.toList (i + N)) wv → J a wv) :
    (cl loop6C).wp Tryd.prog (Exit.then J (Exit.inBlock 6 (Ends KK))) ⟨(I33 p tg tn w.heap.size n T cTn x j tb N i).toArray, []⟩ wr := by
  have HK := Lib.hid hJ
  clear hJ
  have hdl := dots_len (cL N) tb.data.toList i
  have hrun := dots_run (cL N) tb.data.toList i N hN1 (fun a h1 h2 => cL_no hiN h1 h2)
  have q0 : (i : Int) + (N : Int) ≤ (tb.size : Int) := by omega
  have q1 : ((i : Int) + (N : Int)).toNat = i + N := by omega
  have q2 : (i : Int) ≤ (i : Int) + (N : Int) := by omega
  have b0 : ((i : Int) == 0) = false := by rw [beq_eq_false_iff_ne]; omega
  have hc : cL N i = true := by unfold cL; simp [hiN]; omega
  have HRUN := Lib.hid (And.intro hrun hc)
  clear hrun hc
  conv => arg 2; whnf
  unfold I33
  have hw := HV.out.dot (by simp only [List.length_append]; omega)
  go_wp2_with fail
  with_reducible refine hw.mono ?_
  rintro e v0 ⟨rfl, hr⟩
  clear hw
  have G0 := Lib.hid hr
  clear hr
  have hw := (G0.out).str (tb.extract i (i + N)) (by simp only [List.length_append, List.length_singleton]; omega) (by simp only [ByteArray.size_extract]; omega)
  go_wp2_with fail
  with_reducible refine hw.mono ?_
  rintro e v1 ⟨rfl, hr⟩
  clear hw
  have G1 := Lib.hid (show TrRel w (acc ++ dots (cL N) tb.data.toList (i + N)) v1 from by
    rw [HRUN.out.1, HRUN.out.2]
    simpa [ext_data, List.append_assoc] using hr)
  clear hr
  have a1 : (((i : Int) + (N : Int)) == (tb.size : Int)) = false := by rw [beq_eq_false_iff_ne]; omega
  have a2 : ¬ (i : Int) + (N : Int) = (tb.size : Int) := by omega
  have a3 : ¬ (tb.size : Int) < (i : Int) + (N : Int) + (N : Int) := by omega
  go_wp2_with fail
  refine HK.out _ _ (back_I33 (i := i + N) ?_) ?_
  · kernel_rfl
  · have h9 := G1.out
    exact h9
set_option maxHeartbeats 4000000 in
set_option maxRecDepth 1000000 in
theorem round6nC (w wr : World) (p tg tn n : Nat) (T : Option Addr) (cTn : Nat) (x : Nat → Value) (j N i : Nat) (tb : ByteArray) (acc : List UInt8) (hN1 : 1 ≤ N) (hN2 : N ≤ 1000) (hsz : tb.size ≤ 1000) (hacc : acc.length ≤ 90000000) (hiN : i % N = 0) (hle : i + N ≤ tb.size) (hi0 : i ≠ 0) (hC1 : i + N < tb.size) (hC2 : tb.size < i + N + N) (HV : Hid (TrRel w (acc ++ dots (cL N) tb.data.toList i) wr))
    (J KK : Act → World → Prop) (hK : ∀ a wv, (∃ y, a = ⟨(E33 p tg tn w.heap.size n T cTn y j ).toArray, []⟩) → TrRel w (acc ++ (dots (cL N) tb.data.toList tb.size)) wv → KK a wv) :
    (cl loop6C).wp Tryd.prog (Exit.then J (Exit.inBlock 6 (Ends KK))) ⟨(I33 p tg tn w.heap.size n T cTn x j tb N i).toArray, []⟩ wr := by
  have HK := Lib.hid hK
  clear hK
  have hdl := dots_len (cL N) tb.data.toList i
  have hrun := dots_run (cL N) tb.data.toList i N hN1 (fun a h1 h2 => cL_no hiN h1 h2)
  have q0 : (i : Int) + (N : Int) ≤ (tb.size : Int) := by omega
  have q1 : ((i : Int) + (N : Int)).toNat = i + N := by omega
  have q2 : (i : Int) ≤ (i : Int) + (N : Int) := by omega
  have b0 : ((i : Int) == 0) = false := by rw [beq_eq_false_iff_ne]; omega
  have hc : cL N i = true := by unfold cL; simp [hiN]; omega
  have HRUN := Lib.hid (And.intro hrun hc)
  clear hrun hc
  conv => arg 2; whnf
  unfold I33
  have hw := HV.out.dot (by simp only [List.length_append]; omega)
  go_wp2_with fail
  with_reducible refine hw.mono ?_
  rintro e v0 ⟨rfl, hr⟩
  clear hw
  have G0 := Lib.hid hr
  clear hr
  have hw := (G0.out).str (tb.extract i (i + N)) (by simp only [List.length_append, List.length_singleton]; omega) (by simp only [ByteArray.size_extract]; omega)
  go_wp2_with fail
  with_reducible refine hw.mono ?_
  rintro e v1 ⟨rfl, hr⟩
  clear hw
  have G1 := Lib.hid (show TrRel w (acc ++ dots (cL N) tb.data.toList (i + N)) v1 from by
    rw [HRUN.out.1, HRUN.out.2]
    simpa [ext_data, List.append_assoc] using hr)
  clear hr
  have a1 : (((i : Int) + (N : Int)) == (tb.size : Int)) = false := by rw [beq_eq_false_iff_ne]; omega
  have a2 : ¬ (i : Int) + (N : Int) = (tb.size : Int) := by omega
  have a3 : (tb.size : Int) < (i : Int) + (N : Int) + (N : Int) := by omega
  have hiN2 : (i + N) % N = 0 := by rw [Nat.add_mod_right]; exact hiN
  have hrest := dots_run (cL N) tb.data.toList (i + N) (tb.size - (i + N)) (by omega) (fun a h1 h2 => cL_no hiN2 h1 (by omega))
  have hc2 : cL N (i + N) = true := by unfold cL; simp [hiN]; omega
  have HRS := Lib.hid (And.intro hrest hc2)
  clear hrest hc2
  have hdl2 := dots_len (cL N) tb.data.toList (i + N)
  have hw := G1.out.dot (by simp only [List.length_append]; omega)
  go_wp2_with fail
  with_reducible refine hw.mono ?_
  rintro e v2 ⟨rfl, hr⟩
  clear hw
  have G2 := Lib.hid hr
  clear hr
  have hw := G2.out.str (tb.extract (i + N) tb.size) (by simp only [List.length_append, List.length_singleton]; omega) (by simp only [ByteArray.size_extract]; omega)
  go_wp2_with fail
  with_reducible refine hw.mono ?_
  rintro e v3 ⟨rfl, hr⟩
  clear hw
  have G3 := Lib.hid hr
  clear hr
  go_wp2_with fail
  refine HK.out _ _ (back_E33 ?_) ?_
  · kernel_rfl
  · have hr := G3.out
    have hre : tb.size = i + N + (tb.size - (i + N)) := by omega
    rw [show dots (cL N) tb.data.toList tb.size = dots (cL N) tb.data.toList (i + N + (tb.size - (i + N))) from by rw [← hre], HRS.out.1, HRS.out.2]
    simp only [tail_data] at hr
    rw [List.take_of_length_le (by rw [List.length_drop, K.bsize]; omega)]
    simpa [List.append_assoc] using hr
set_option maxHeartbeats 4000000 in
set_option maxRecDepth 1000000 in
theorem end6 (w wr : World) (p tg tn n : Nat) (T : Option Addr) (cTn : Nat) (x : Nat → Value) (j N i : Nat) (tb : ByteArray) (acc : List UInt8) (hN1 : 1 ≤ N) (hN2 : N ≤ 1000) (hsz : tb.size ≤ 1000) (hi : i = tb.size) (HV : Hid (TrRel w (acc ++ dots (cL N) tb.data.toList i) wr))
    (J KK : Act → World → Prop) (hK : ∀ a wv, (∃ y, a = ⟨(E33 p tg tn w.heap.size n T cTn y j ).toArray, []⟩) → TrRel w (acc ++ (dots (cL N) tb.data.toList tb.size)) wv → KK a wv) :
    (cl loop6C).wp Tryd.prog (Exit.then J (Exit.inBlock 6 (Ends KK))) ⟨(I33 p tg tn w.heap.size n T cTn x j tb N i).toArray, []⟩ wr := by
  have HK := Lib.hid hK
  have q0 : ¬ (i : Int) + (N : Int) ≤ (tb.size : Int) := by omega
  have HI := Lib.hid hi
  have hib : i ≤ 1000 := by omega
  clear hK hi
  conv => arg 2; whnf
  unfold I33
  go_wp2_with fail
  refine HK.out _ _ (back_E33 ?_) ?_
  · kernel_rfl
  · rw [← HI.out]; exact HV.out
set_option maxRecDepth 1000000 in
theorem loop6 (w wr : World) (p tg tn n : Nat) (T : Option Addr) (cTn : Nat) (j N : Nat) (tb : ByteArray) (acc : List UInt8) (a : Act) (ha : ∃ y, a = ⟨(I33 p tg tn w.heap.size n T cTn y j tb N 0).toArray, []⟩) (hN1 : 1 ≤ N) (hN2 : N ≤ 1000) (hN3 : N < tb.size) (hsz : tb.size ≤ 1000) (hacc : acc.length ≤ 90000000) (HV : TrRel w acc wr)
    (KK : Act → World → Prop) (hK : ∀ a wv, (∃ y, a = ⟨(E33 p tg tn w.heap.size n T cTn y j ).toArray, []⟩) → TrRel w (acc ++ (dots (cL N) tb.data.toList tb.size)) wv → KK a wv) :
    loop6C.wp Tryd.prog (Exit.inBlock 6 (Ends KK)) a wr := by
  obtain ⟨x, rfl⟩ := ha
  have e : loop6C = .loop (cl loop6C) := by kernel_rfl
  rw [e]
  refine wp_loop_ghost_k (fun g a wv => ∃ (x : Nat → Value) (i : Nat), a = ⟨(I33 p tg tn w.heap.size n T cTn x j tb N i).toArray, []⟩ ∧ i % N = 0 ∧ (i = tb.size ∨ i + N ≤ tb.size) ∧ g = tb.size - i ∧ Hid (TrRel w (acc ++ dots (cL N) tb.data.toList i) wv)) tb.size ?_ ?_
  · exact ⟨x, 0, rfl, Nat.zero_mod _, .inr (by omega), rfl, Lib.hid (by simpa [dots] using HV)⟩
  · rintro gg _ wv ⟨x2, i, rfl, hiN, hii, hgg, HV⟩ JJ2 KK2 hJ2 hK2
    by_cases hle : i + N ≤ tb.size
    · have nxt : ∀ i2, i2 = i + N → (i2 = tb.size ∨ i2 + N ≤ tb.size) → ∀ a wv, (∃ y, a = ⟨(I33 p tg tn w.heap.size n T cTn y j tb N i2).toArray, []⟩) → TrRel w (acc ++ dots (cL N) tb.data.toList i2) wv → KK2 a wv := fun i2 h1 h2 a wv ⟨y, hy⟩ h3 =>
        hK2 a wv (Handed.intro (gg - N) (by omega) (hJ2 _ _ _ ⟨y, i2, hy, by rw [h1, Nat.add_mod_right]; exact hiN, h2, by omega, Lib.hid h3⟩))
      by_cases h0 : i = 0
      · subst h0
        by_cases hB : 0 + N + N ≤ tb.size
        · exact round6zB w wv p tg tn n T cTn x2 j N tb acc hN1 hN2 hsz hacc hiN hle hB HV _ _ (nxt N (by omega) (.inr (by omega)))
        · exact round6zC w wv p tg tn n T cTn x2 j N tb acc hN1 hN2 hsz hacc hiN hle (by omega) (by omega) HV _ _ hK
      · by_cases hA : i + N = tb.size
        · exact round6nA w wv p tg tn n T cTn x2 j N i tb acc hN1 hN2 hsz hacc hiN hle h0 hA HV _ _ (nxt tb.size hA.symm (.inl rfl))
        · by_cases hB : i + N + N ≤ tb.size
          · exact round6nB w wv p tg tn n T cTn x2 j N i tb acc hN1 hN2 hsz hacc hiN hle h0 hB HV _ _ (nxt (i + N) rfl (.inr hB))
          · exact round6nC w wv p tg tn n T cTn x2 j N i tb acc hN1 hN2 hsz hacc hiN hle h0 (by omega) (by omega) HV _ _ hK
    · exact end6 w wv p tg tn n T cTn x2 j N i tb acc hN1 hN2 hsz (by omega) HV _ _ hK
set_option maxHeartbeats 4000000 in
set_option maxRecDepth 1000000 in
theorem arm6 (w wr : World) (p tg tn n : Nat) (T : Option Addr) (cTn : Nat) (x : Nat → Value) (j t N ub uo cU g3 c3 vb vo cV_ : Nat) (tb : ByteArray) (acc : List UInt8)
    (hjn : j < n) (_hn : n ≤ 1000) (htn : t < tn) (_hp : p < w.heap.size)
    (d5 : wr.cell? ⟨p, 5, none⟩ = some (.slice (some ⟨ub, uo, none⟩) n cU)) (d6 : wr.cell? ⟨p, 6, none⟩ = some (.slice (some ⟨vb, vo, none⟩) n cV_))
    (cU0 : wr.cell? ⟨ub, uo + j, none⟩ = some (.slice (some ⟨g3, 0, none⟩) 1 c3)) (cI : wr.cell? ⟨g3, 0, none⟩ = some (.int .i64 (t : Int)))
    (cQ : wr.cell? ⟨tg, t, none⟩ = some (.string tb)) (cV : wr.cell? ⟨vb, vo + j, none⟩ = some (.int .i32 (N : Int)))
    (hN1 : 1 ≤ N) (hN2 : N ≤ 1000) (hN3 : N < tb.size) (hsz : tb.size ≤ 1000) (hR : TrRel w acc wr) (hacc : acc.length ≤ 90000000)
    (KK : Act → World → Prop) (hK : ∀ a wv, (∃ y, a = ⟨(E33 p tg tn w.heap.size n T cTn y j ).toArray, []⟩) → TrRel w (acc ++ (dots (cL N) tb.data.toList tb.size)) wv → KK a wv) :
    arm6C.wp Tryd.prog (Ends KK) ⟨(E33 p tg tn w.heap.size n T cTn x j ).toArray, []⟩ wr := by
  have HK := Lib.hid hK
  have HR := Lib.hid hR
  clear hK hR
  have hN3' : (N : Int) < (tb.size : Int) := by omega
  have hN0 : (0 : Int) < (N : Int) := by omega
  have hN4 : (N : Int) ≤ (tb.size : Int) := by omega
  have hN5 : (0 : Int) ≤ (N : Int) := by omega
  conv => arg 2; whnf
  unfold E33
  go_upto_region 52 with (fail)
  refine wp_code (c := loop6C) ?_ (loop6 w wr p tg tn n T cTn j N tb acc _ (back_I33 ?_) hN1 hN2 hN3 hsz hacc HR.out KK HK.out)
  · kernel_rfl
  · kernel_rfl
end Go.Proofs.YtocfcajafkkhdaaDoor
end
/- Tq7 -/
section
namespace Go.Proofs.YtocfcajafkkhdaaDoor
open Go.RowKit

set_option maxHeartbeats 4000000 in
set_option maxRecDepth 1000000 in
theorem round7A (w wr : World) (p tg tn n : Nat) (T : Option Addr) (cTn : Nat) (x : Nat → Value) (j N i : Nat) (tb : ByteArray) (acc : List UInt8) (hN1 : 1 ≤ N) (hN2 : N ≤ 1000) (hsz : tb.size ≤ 1000) (hacc : acc.length ≤ 90000000) (hiN : (tb.size - i) % N = 0) (hle : i + N ≤ tb.size) (hA : i + N < tb.size) (HV : Hid (TrRel w (acc ++ (dots (cR N tb.size) tb.data.toList i ++ (if 0 < i ∧ i < tb.size then [46] else []))) wr))
    (J KK : Act → World → Prop) (hJ : ∀ a wv, (∃ y, a = ⟨(J33 p tg tn w.heap.size n T cTn y j tb N (i + N)).toArray, []⟩) → TrRel w (acc ++ (dots (cR N tb.size) tb.data.toList (i + N) ++ (if 0 < i + N ∧ i + N < tb.size then [46] else []))) wv → J a wv) :
    (cl loop7C).wp Tryd.prog (Exit.then J (Exit.inBlock 8 (Ends KK))) ⟨(J33 p tg tn w.heap.size n T cTn x j tb N i).toArray, []⟩ wr := by
  have HK := Lib.hid hJ
  clear hJ
  have hdl := dots_len (cR N tb.size) tb.data.toList i
  have hrun := dots_run (cR N tb.size) tb.data.toList i N hN1 (fun a h1 h2 => cR_no hiN h1 h2 hle)
  have q0 : (i : Int) + (N : Int) ≤ (tb.size : Int) := by omega
  have q1 : ((i : Int) + (N : Int)).toNat = i + N := by omega
  have q2 : (i : Int) ≤ (i : Int) + (N : Int) := by omega
  have hcc : (if cR N tb.size i = true then [46] else [] : List UInt8) = if 0 < i ∧ i < tb.size then [46] else [] := by
    unfold cR
    by_cases h : 0 < i
    · rw [if_pos (by simp [h, hiN]), if_pos ⟨h, by omega⟩]
    · rw [if_neg (by simp [h]), if_neg (fun e => h e.1)]
  rw [hcc] at hrun
  have hcl : (if 0 < i ∧ i < tb.size then [46] else [] : List UInt8).length ≤ 1 := by split <;> simp
  have HRUN := Lib.hid hrun
  have hw := HV.out.str (tb.extract i (i + N)) (by simp only [List.length_append]; omega) (by simp only [ByteArray.size_extract]; omega)
  have HA := Lib.hid hA
  clear hrun hcc hcl hA
  conv => arg 2; whnf
  unfold J33
  go_wp2_with fail
  with_reducible refine hw.mono ?_
  rintro e v2 ⟨rfl, hr⟩
  clear hw
  have hA := HA.out
  have G1 := Lib.hid (show TrRel w (acc ++ dots (cR N tb.size) tb.data.toList (i + N)) v2 from by
    rw [HRUN.out]
    simpa [ext_data, List.append_assoc] using hr)
  clear hr
  have hdl2 := dots_len (cR N tb.size) tb.data.toList (i + N)
  have a1 : (i : Int) + (N : Int) < (tb.size : Int) := by omega
  have hw := G1.out.dot (by simp only [List.length_append]; omega)
  clear hA
  go_wp2_with fail
  with_reducible refine hw.mono ?_
  rintro e v3 ⟨rfl, hr⟩
  clear hw
  have G2 := Lib.hid hr
  clear hr
  go_wp2_with fail
  refine HK.out _ _ (back_J33 (i := i + N) ?_) ?_
  · kernel_rfl
  · rw [if_pos ⟨by omega, HA.out⟩, ← List.append_assoc]
    exact G2.out
set_option maxHeartbeats 4000000 in
set_option maxRecDepth 1000000 in
theorem round7B (w wr : World) (p tg tn n : Nat) (T : Option Addr) (cTn : Nat) (x : Nat → Value) (j N i : Nat) (tb : ByteArray) (acc : List UInt8) (hN1 : 1 ≤ N) (hN2 : N ≤ 1000) (hsz : tb.size ≤ 1000) (hacc : acc.length ≤ 90000000) (hiN : (tb.size - i) % N = 0) (hle : i + N ≤ tb.size) (hA : i + N = tb.size) (HV : Hid (TrRel w (acc ++ (dots (cR N tb.size) tb.data.toList i ++ (if 0 < i ∧ i < tb.size then [46] else []))) wr))
    (J KK : Act → World → Prop) (hJ : ∀ a wv, (∃ y, a = ⟨(J33 p tg tn w.heap.size n T cTn y j tb N (i + N)).toArray, []⟩) → TrRel w (acc ++ (dots (cR N tb.size) tb.data.toList (i + N) ++ (if 0 < i + N ∧ i + N < tb.size then [46] else []))) wv → J a wv) :
    (cl loop7C).wp Tryd.prog (Exit.then J (Exit.inBlock 8 (Ends KK))) ⟨(J33 p tg tn w.heap.size n T cTn x j tb N i).toArray, []⟩ wr := by
  have HK := Lib.hid hJ
  clear hJ
  have hdl := dots_len (cR N tb.size) tb.data.toList i
  have hrun := dots_run (cR N tb.size) tb.data.toList i N hN1 (fun a h1 h2 => cR_no hiN h1 h2 hle)
  have q0 : (i : Int) + (N : Int) ≤ (tb.size : Int) := by omega
  have q1 : ((i : Int) + (N : Int)).toNat = i + N := by omega
  have q2 : (i : Int) ≤ (i : Int) + (N : Int) := by omega
  have hcc : (if cR N tb.size i = true then [46] else [] : List UInt8) = if 0 < i ∧ i < tb.size then [46] else [] := by
    unfold cR
    by_cases h : 0 < i
    · rw [if_pos (by simp [h, hiN]), if_pos ⟨h, by omega⟩]
    · rw [if_neg (by simp [h]), if_neg (fun e => h e.1)]
  rw [hcc] at hrun
  have hcl : (if 0 < i ∧ i < tb.size then [46] else [] : List UInt8).length ≤ 1 := by split <;> simp
  have HRUN := Lib.hid hrun
  have hw := HV.out.str (tb.extract i (i + N)) (by simp only [List.length_append]; omega) (by simp only [ByteArray.size_extract]; omega)
  have HA := Lib.hid hA
  clear hrun hcc hcl hA
  conv => arg 2; whnf
  unfold J33
  go_wp2_with fail
  with_reducible refine hw.mono ?_
  rintro e v2 ⟨rfl, hr⟩
  clear hw
  have hA := HA.out
  have G1 := Lib.hid (show TrRel w (acc ++ dots (cR N tb.size) tb.data.toList (i + N)) v2 from by
    rw [HRUN.out]
    simpa [ext_data, List.append_assoc] using hr)
  clear hr
  have hdl2 := dots_len (cR N tb.size) tb.data.toList (i + N)
  have a1 : ¬ (i : Int) + (N : Int) < (tb.size : Int) := by omega
  clear hA
  go_wp2_with fail
  refine HK.out _ _ (back_J33 (i := i + N) ?_) ?_
  · kernel_rfl
  · have hA := HA.out
    rw [if_neg (fun e => by omega), List.append_nil]
    exact G1.out
set_option maxHeartbeats 4000000 in
set_option maxRecDepth 1000000 in
theorem end7 (w wr : World) (p tg tn n : Nat) (T : Option Addr) (cTn : Nat) (x : Nat → Value) (j N i : Nat) (tb : ByteArray) (acc : List UInt8) (hN1 : 1 ≤ N) (hN2 : N ≤ 1000) (hsz : tb.size ≤ 1000) (hi : i = tb.size) (HV : Hid (TrRel w (acc ++ (dots (cR N tb.size) tb.data.toList i ++ (if 0 < i ∧ i < tb.size then [46] else []))) wr))
    (J KK : Act → World → Prop) (hK : ∀ a wv, (∃ y, a = ⟨(E33 p tg tn w.heap.size n T cTn y j ).toArray, []⟩) → TrRel w (acc ++ (dots (cR N tb.size) tb.data.toList tb.size)) wv → KK a wv) :
    (cl loop7C).wp Tryd.prog (Exit.then J (Exit.inBlock 8 (Ends KK))) ⟨(J33 p tg tn w.heap.size n T cTn x j tb N i).toArray, []⟩ wr := by
  have HK := Lib.hid hK
  have q0 : ¬ (i : Int) + (N : Int) ≤ (tb.size : Int) := by omega
  have HI := Lib.hid hi
  have hib : i ≤ 1000 := by omega
  clear hK hi
  conv => arg 2; whnf
  unfold J33
  go_wp2_with fail
  refine HK.out _ _ (back_E33 ?_) ?_
  · kernel_rfl
  · have h9 := HV.out
    have hi := HI.out
    rw [if_neg (fun e => by omega), List.append_nil, hi] at h9
    exact h9
set_option maxRecDepth 1000000 in
theorem loop7 (w wr : World) (p tg tn n : Nat) (T : Option Addr) (cTn : Nat) (j N R : Nat) (tb : ByteArray) (acc : List UInt8) (a : Act) (ha : ∃ y, a = ⟨(J33 p tg tn w.heap.size n T cTn y j tb N R).toArray, []⟩) (hN1 : 1 ≤ N) (hN2 : N ≤ 1000) (hsR : (tb.size - R) % N = 0) (hRl : R < tb.size) (hsz : tb.size ≤ 1000) (hacc : acc.length ≤ 90000000) (HV : TrRel w (acc ++ (dots (cR N tb.size) tb.data.toList R ++ (if 0 < R ∧ R < tb.size then [46] else []))) wr)
    (KK : Act → World → Prop) (hK : ∀ a wv, (∃ y, a = ⟨(E33 p tg tn w.heap.size n T cTn y j ).toArray, []⟩) → TrRel w (acc ++ (dots (cR N tb.size) tb.data.toList tb.size)) wv → KK a wv) :
    loop7C.wp Tryd.prog (Exit.inBlock 8 (Ends KK)) a wr := by
  obtain ⟨x, rfl⟩ := ha
  have e : loop7C = .loop (cl loop7C) := by kernel_rfl
  rw [e]
  refine wp_loop_ghost_k (fun g a wv => ∃ (x : Nat → Value) (i : Nat), a = ⟨(J33 p tg tn w.heap.size n T cTn x j tb N i).toArray, []⟩ ∧ (tb.size - i) % N = 0 ∧ i ≤ tb.size ∧ g = tb.size - i ∧ Hid (TrRel w (acc ++ (dots (cR N tb.size) tb.data.toList i ++ (if 0 < i ∧ i < tb.size then [46] else []))) wv)) (tb.size - R) ?_ ?_
  · exact ⟨x, R, rfl, hsR, by omega, rfl, Lib.hid HV⟩
  · rintro gg _ wv ⟨x2, i, rfl, hiN, hii, hgg, HV⟩ JJ2 KK2 hJ2 hK2
    by_cases hle : i + N ≤ tb.size
    · have hiN2 : (tb.size - (i + N)) % N = 0 := by
        have h9 := hiN
        rw [Nat.mod_eq_sub_mod (by omega)] at h9
        rw [show tb.size - (i + N) = tb.size - i - N from by omega]
        exact h9
      have nxt : ∀ a wv, (∃ y, a = ⟨(J33 p tg tn w.heap.size n T cTn y j tb N (i + N)).toArray, []⟩) → TrRel w (acc ++ (dots (cR N tb.size) tb.data.toList (i + N) ++ (if 0 < i + N ∧ i + N < tb.size then [46] else []))) wv → KK2 a wv := fun a wv ⟨y, hy⟩ h3 =>
        hK2 a wv (Handed.intro (gg - N) (by omega) (hJ2 _ _ _ ⟨y, i + N, hy, hiN2, hle, by omega, Lib.hid h3⟩))
      by_cases hA : i + N < tb.size
      · exact round7A w wv p tg tn n T cTn x2 j N i tb acc hN1 hN2 hsz hacc hiN hle hA HV _ KK nxt
      · exact round7B w wv p tg tn n T cTn x2 j N i tb acc hN1 hN2 hsz hacc hiN hle (by omega) HV _ KK nxt
    · have hie : i = tb.size := by
        rw [Nat.mod_eq_of_lt (by omega)] at hiN
        omega
      exact end7 w wv p tg tn n T cTn x2 j N i tb acc hN1 hN2 hsz hie HV _ _ hK
set_option maxHeartbeats 4000000 in
set_option maxRecDepth 1000000 in
theorem arm7 (w wr : World) (p tg tn n : Nat) (T : Option Addr) (cTn : Nat) (x : Nat → Value) (j t N ub uo cU g3 c3 vb vo cV_ : Nat) (tb : ByteArray) (acc : List UInt8)
    (hjn : j < n) (_hn : n ≤ 1000) (htn : t < tn) (_hp : p < w.heap.size)
    (d5 : wr.cell? ⟨p, 5, none⟩ = some (.slice (some ⟨ub, uo, none⟩) n cU)) (d6 : wr.cell? ⟨p, 6, none⟩ = some (.slice (some ⟨vb, vo, none⟩) n cV_))
    (cU0 : wr.cell? ⟨ub, uo + j, none⟩ = some (.slice (some ⟨g3, 0, none⟩) 1 c3)) (cI : wr.cell? ⟨g3, 0, none⟩ = some (.int .i64 (t : Int)))
    (cQ : wr.cell? ⟨tg, t, none⟩ = some (.string tb)) (cV : wr.cell? ⟨vb, vo + j, none⟩ = some (.int .i32 (N : Int)))
    (hN1 : 1 ≤ N) (hN2 : N ≤ 1000) (hN3 : N < tb.size) (hsz : tb.size ≤ 1000) (hR : TrRel w acc wr) (hacc : acc.length ≤ 90000000)
    (KK : Act → World → Prop) (hK : ∀ a wv, (∃ y, a = ⟨(E33 p tg tn w.heap.size n T cTn y j ).toArray, []⟩) → TrRel w (acc ++ (dots (cR N tb.size) tb.data.toList tb.size)) wv → KK a wv) :
    arm7C.wp Tryd.prog (Ends KK) ⟨(E33 p tg tn w.heap.size n T cTn x j ).toArray, []⟩ wr := by
  have HK := Lib.hid hK
  have HR := Lib.hid hR
  clear hK hR
  have hN3' : (N : Int) < (tb.size : Int) := by omega
  have hN0 : (0 : Int) < (N : Int) := by omega
  have hN4 : (N : Int) ≤ (tb.size : Int) := by omega
  have hN5 : (0 : Int) ≤ (N : Int) := by omega
  obtain ⟨R, hR⟩ : ∃ R : Nat, tb.size % N = R := ⟨_, rfl⟩
  have hRN : R < N := by rw [← hR]; exact Nat.mod_lt _ (by omega)
  have hR1 : (tb.size : Int) % (N : Int) = (R : Int) := by rw [← hR]; rfl
  have hsR : (tb.size - R) % N = 0 := by
    have := Nat.div_add_mod tb.size N
    rw [show tb.size - R = N * (tb.size / N) from by omega]
    exact Nat.mul_mod_right _ _
  have hRl : R < tb.size := by omega
  have HR0 := Lib.hid (And.intro hR hsR)
  clear hR hsR
  conv => arg 2; whnf
  unfold E33
  by_cases hRz : R = 0
  · subst hRz
    rw [show ((0 : Nat) : Int) = 0 from rfl] at hR1
    go_upto_region 71 with (fail)
    rw [hR1]
    refine wp_code (c := loop7C) ?_ (loop7 w wr p tg tn n T cTn j N 0 tb acc _ (back_J33 ?_) hN1 hN2 HR0.out.2 hRl hsz hacc (by simpa [dots] using HR.out) KK HK.out)
    · kernel_rfl
    · kernel_rfl
  · have hRp : (0 : Int) < (R : Int) := by omega
    have hRs : (R : Int) ≤ (tb.size : Int) := by omega
    have hw := HR.out.str (tb.extract 0 R) (by omega) (by simp only [ByteArray.size_extract]; omega)
    go_wp2_with fail
    with_reducible refine hw.mono ?_
    rintro e v0 ⟨rfl, hr⟩
    clear hw
    have G0 := Lib.hid hr
    clear hr
    have hw := G0.out.dot (by simp only [List.length_append, K.bsize, ByteArray.size_extract]; omega)
    go_wp2_with fail
    with_reducible refine hw.mono ?_
    rintro e v1 ⟨rfl, hr⟩
    clear hw
    have HS := Lib.hid (show TrRel w (acc ++ (dots (cR N tb.size) tb.data.toList R ++ (if 0 < R ∧ R < tb.size then [46] else []))) v1 from by
      have hd := dots_run (cR N tb.size) tb.data.toList 0 R (by omega) (fun a h1 h2 => cR_first h1 (by rw [HR0.out.1]; omega))
      rw [Nat.zero_add] at hd
      rw [if_pos ⟨by omega, hRl⟩, hd]
      have hc0 : cR N tb.size 0 = false := by simp [cR]
      rw [hc0]
      simpa [ext_data, dots, List.append_assoc] using hr)
    clear hr
    go_upto_region 71 with (fail)
    refine wp_code (c := loop7C) ?_ (loop7 w v1 p tg tn n T cTn j N R tb acc _ (back_J33 ?_) hN1 hN2 HR0.out.2 hRl hsz hacc HS.out KK HK.out)
    · kernel_rfl
    · kernel_rfl
end Go.Proofs.YtocfcajafkkhdaaDoor
end
