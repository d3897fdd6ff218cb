/-
  TransformTokenizedSubject: a word of the destination; a wildcard by itself. Printed by wip/py/gen_tp.py.
  TransformTokenizedSubject: a word cut in two, a word's beginning or end. Printed by wip/py/gen_tp.py.
-/
import Derived.Test.YtocfcajafkkhdaaDoorZTp
/- Tw -/
section
namespace Go.Proofs.YtocfcajafkkhdaaDoor
open Go.RowKit

/-- a word -/
noncomputable def wordC : Code := ct (c2 (c1 (c2 (cb (c1 (c2 (c2 (bodyL))))))))
set_option maxHeartbeats 4000000 in
set_option maxRecDepth 1000000 in
theorem word1 (w wr : World) (p tg tn n : Nat) (T : Option Addr) (cTn : Nat) (x : Nat → Value) (j m ab ao cA : Nat) (tb : ByteArray) (acc : List UInt8) (hjm : j < m) (d2 : wr.cell? ⟨p, 2, none⟩ = some (.slice (some ⟨ab, ao, none⟩) m cA)) (cA0 : wr.cell? ⟨ab, ao + j, none⟩ = some (.string tb)) (_hsz : tb.size ≤ 1000) (hR : TrRel w acc wr) (hacc : acc.length ≤ 90000000) (h1 : tb.size = 1) (h62 : tb.data.toList ≠ [62])
    (KK : Act → World → Prop) (hK : ∀ a wv, (∃ y, a = ⟨(E33 p tg tn w.heap.size n T cTn y j ).toArray, []⟩) → TrRel w (acc ++ tb.data.toList) wv → KK a wv) :
    wordC.wp Tryd.prog (Ends KK) ⟨(E33 p tg tn w.heap.size n T cTn x j ).toArray, []⟩ wr := by
  have HK := Lib.hid hK
  have h1' : 0 < tb.size := by omega
  have n62 : tb[0]'h1' ≠ 62 := fun e => h62 (by
    have hb := K.bsize tb
    rw [h1] at hb
    obtain ⟨x, hx⟩ := List.length_eq_one_iff.1 hb
    have e0 : tb.data.toList[0]? = some tb[0] := get_at (by omega)
    rw [hx] at e0 ⊢
    rw [e] at e0
    simpa using e0)
  have b62 : ((((tb[0]'h1').toNat : Nat) : Int) == 62) = false := ne_int n62
  have z1 : ((tb.size : Int) == 1) = true := by rw [h1]; rfl
  have hw := hR.str tb (by omega) (by omega)
  clear h1 h62 n62
  clear hK hR
  conv => arg 2; whnf
  unfold E33
  go_wp2_with fail
  with_reducible refine hw.mono ?_
  rintro e w1 ⟨rfl, hr⟩
  clear hw
  have G := Lib.hid hr
  clear hr
  go_wp2_with fail
  refine HK.out _ _ (back_E33 ?_) G.out
  kernel_rfl
set_option maxHeartbeats 4000000 in
set_option maxRecDepth 1000000 in
theorem word2 (w wr : World) (p tg tn n : Nat) (T : Option Addr) (cTn : Nat) (x : Nat → Value) (j m ab ao cA : Nat) (tb : ByteArray) (acc : List UInt8) (hjm : j < m) (d2 : wr.cell? ⟨p, 2, none⟩ = some (.slice (some ⟨ab, ao, none⟩) m cA)) (cA0 : wr.cell? ⟨ab, ao + j, none⟩ = some (.string tb)) (hsz : tb.size ≤ 1000) (hR : TrRel w acc wr) (hacc : acc.length ≤ 90000000) (h1 : tb.size ≠ 1)
    (KK : Act → World → Prop) (hK : ∀ a wv, (∃ y, a = ⟨(E33 p tg tn w.heap.size n T cTn y j ).toArray, []⟩) → TrRel w (acc ++ tb.data.toList) wv → KK a wv) :
    wordC.wp Tryd.prog (Ends KK) ⟨(E33 p tg tn w.heap.size n T cTn x j ).toArray, []⟩ wr := by
  have HK := Lib.hid hK
  have z1 : ((tb.size : Int) == 1) = false := by rw [beq_eq_false_iff_ne]; omega
  have hw := hR.str tb (by omega) (by omega)
  clear h1
  clear hK hR
  conv => arg 2; whnf
  unfold E33
  go_wp2_with fail
  with_reducible refine hw.mono ?_
  rintro e w1 ⟨rfl, hr⟩
  clear hw
  have G := Lib.hid hr
  clear hr
  go_wp2_with fail
  refine HK.out _ _ (back_E33 ?_) G.out
  kernel_rfl
set_option maxHeartbeats 4000000 in
set_option maxRecDepth 1000000 in
theorem arm3 (w wr : World) (p tg tn n : Nat) (T : Option Addr) (cTn : Nat) (x : Nat → Value) (j t ub uo cU g3 c3 : Nat) (tb : ByteArray) (acc : List UInt8) (hjn : j < n) (_hn : n ≤ 1000) (htn : t < tn) (_htn2 : tn ≤ 1000) (d5 : wr.cell? ⟨p, 5, none⟩ = some (.slice (some ⟨ub, uo, none⟩) n cU)) (cU0 : wr.cell? ⟨ub, uo + j, none⟩ = some (.slice (some ⟨g3, 0, none⟩) 1 c3)) (cI : wr.cell? ⟨g3, 0, none⟩ = some (.int .i64 (t : Int))) (cQ : wr.cell? ⟨tg, t, none⟩ = some (.string tb)) (hsz : tb.size ≤ 1000) (hR : TrRel w acc wr) (hacc : acc.length ≤ 90000000)
    (KK : Act → World → Prop) (hK : ∀ a wv, (∃ y, a = ⟨(E33 p tg tn w.heap.size n T cTn y j ).toArray, []⟩) → TrRel w (acc ++ tb.data.toList) wv → KK a wv) :
    arm3C.wp Tryd.prog (Ends KK) ⟨(E33 p tg tn w.heap.size n T cTn x j ).toArray, []⟩ wr := by
  have HK := Lib.hid hK
  have htk2 : ¬ ((tn : Int) ≤ (t : Int)) := by omega
  have hw := hR.str tb (by omega) (by omega)
  clear hK hR
  conv => arg 2; whnf
  unfold E33
  go_wp2_with fail
  with_reducible refine hw.mono ?_
  rintro e w1 ⟨rfl, hr⟩
  clear hw
  have G := Lib.hid hr
  clear hr
  go_wp2_with fail
  refine HK.out _ _ (back_E33 ?_) G.out
  kernel_rfl
end Go.Proofs.YtocfcajafkkhdaaDoor
end
/- Tq -/
section
namespace Go.Proofs.YtocfcajafkkhdaaDoor
open Go.RowKit

set_option maxHeartbeats 4000000 in
set_option maxRecDepth 1000000 in
theorem arm4 (w wr : World) (p tg tn n : Nat) (T : Option Addr) (cTn : Nat) (x : Nat → Value) (j t N ub uo cU g3 c3 vb vo cV_ : Nat) (tb : ByteArray) (acc : List UInt8)
    (hjn : j < n) (_hn : n ≤ 1000) (htn : t < tn) (_hp : p < w.heap.size)
    (d5 : wr.cell? ⟨p, 5, none⟩ = some (.slice (some ⟨ub, uo, none⟩) n cU)) (d6 : wr.cell? ⟨p, 6, none⟩ = some (.slice (some ⟨vb, vo, none⟩) n cV_))
    (cU0 : wr.cell? ⟨ub, uo + j, none⟩ = some (.slice (some ⟨g3, 0, none⟩) 1 c3)) (cI : wr.cell? ⟨g3, 0, none⟩ = some (.int .i64 (t : Int)))
    (cQ : wr.cell? ⟨tg, t, none⟩ = some (.string tb)) (cV : wr.cell? ⟨vb, vo + j, none⟩ = some (.int .i32 (N : Int)))
    (hN1 : 1 ≤ N) (hN2 : N ≤ 1000) (hN3 : N < tb.size) (hsz : tb.size ≤ 1000) (hR : TrRel w acc wr) (hacc : acc.length ≤ 90000000)
    (KK : Act → World → Prop) (hK : ∀ a wv, (∃ y, a = ⟨(E33 p tg tn w.heap.size n T cTn y j ).toArray, []⟩) → TrRel w (acc ++ (tb.data.toList.take N ++ 46 :: tb.data.toList.drop N)) wv → KK a wv) :
    arm4C.wp Tryd.prog (Ends KK) ⟨(E33 p tg tn w.heap.size n T cTn x j ).toArray, []⟩ wr := by
  have HK := Lib.hid hK
  have HR := Lib.hid hR
  clear hK hR
  have hN3' : (N : Int) < (tb.size : Int) := by omega
  have hN0 : (0 : Int) < (N : Int) := by omega
  have hN4 : (N : Int) ≤ (tb.size : Int) := by omega
  have hN5 : (0 : Int) ≤ (N : Int) := by omega
  conv => arg 2; whnf
  unfold E33
  have hw := (HR.out).str (tb.extract 0 N) (by (try simp only [List.length_append, List.length_singleton, K.bsize, ByteArray.size_extract]); omega) (by simp only [ByteArray.size_extract]; omega)
  go_wp2_with fail
  with_reducible refine hw.mono ?_
  rintro e v0 ⟨rfl, hr⟩
  clear hw
  have G0 := Lib.hid hr
  clear hr
  have hw := (G0.out).dot (by (try simp only [List.length_append, K.bsize, ByteArray.size_extract]); omega)
  go_wp2_with fail
  with_reducible refine hw.mono ?_
  rintro e v1 ⟨rfl, hr⟩
  clear hw
  have G1 := Lib.hid hr
  clear hr
  have hw := (G1.out).str (tb.extract N tb.size) (by (try simp only [List.length_append, List.length_singleton, K.bsize, ByteArray.size_extract]); omega) (by simp only [ByteArray.size_extract]; omega)
  go_wp2_with fail
  with_reducible refine hw.mono ?_
  rintro e v2 ⟨rfl, hr⟩
  clear hw
  have G2 := Lib.hid hr
  clear hr
  go_wp2_with fail
  refine HK.out _ _ (back_E33 ?_) ?_
  · kernel_rfl
  · have h5 := G2.out
    try simp only [tail_data] at h5
    simpa [ext_data, List.append_assoc] using h5
set_option maxHeartbeats 4000000 in
set_option maxRecDepth 1000000 in
theorem arm5 (w wr : World) (p tg tn n : Nat) (T : Option Addr) (cTn : Nat) (x : Nat → Value) (j t N ub uo cU g3 c3 vb vo cV_ : Nat) (tb : ByteArray) (acc : List UInt8)
    (hjn : j < n) (_hn : n ≤ 1000) (htn : t < tn) (_hp : p < w.heap.size)
    (d5 : wr.cell? ⟨p, 5, none⟩ = some (.slice (some ⟨ub, uo, none⟩) n cU)) (d6 : wr.cell? ⟨p, 6, none⟩ = some (.slice (some ⟨vb, vo, none⟩) n cV_))
    (cU0 : wr.cell? ⟨ub, uo + j, none⟩ = some (.slice (some ⟨g3, 0, none⟩) 1 c3)) (cI : wr.cell? ⟨g3, 0, none⟩ = some (.int .i64 (t : Int)))
    (cQ : wr.cell? ⟨tg, t, none⟩ = some (.string tb)) (cV : wr.cell? ⟨vb, vo + j, none⟩ = some (.int .i32 (N : Int)))
    (hN1 : 1 ≤ N) (hN2 : N ≤ 1000) (hN3 : N < tb.size) (hsz : tb.size ≤ 1000) (hR : TrRel w acc wr) (hacc : acc.length ≤ 90000000)
    (KK : Act → World → Prop) (hK : ∀ a wv, (∃ y, a = ⟨(E33 p tg tn w.heap.size n T cTn y j ).toArray, []⟩) → TrRel w (acc ++ (tb.data.toList.take (tb.size - N) ++ 46 :: tb.data.toList.drop (tb.size - N))) wv → KK a wv) :
    arm5C.wp Tryd.prog (Ends KK) ⟨(E33 p tg tn w.heap.size n T cTn x j ).toArray, []⟩ wr := by
  obtain ⟨M, hM⟩ : ∃ M : Nat, tb.size = M + N := ⟨tb.size - N, by omega⟩
  have hM1 : (tb.size : Int) - (N : Int) = (M : Int) := by omega
  have hM2 : (M : Int) ≤ (tb.size : Int) := by omega
  rw [show tb.size - N = M from by omega] at hK
  have hM3 : M ≤ tb.size := by omega
  have HM := Lib.hid hM
  clear hM
  have HK := Lib.hid hK
  have HR := Lib.hid hR
  clear hK hR
  have hN3' : (N : Int) < (tb.size : Int) := by omega
  have hN0 : (0 : Int) < (N : Int) := by omega
  have hN4 : (N : Int) ≤ (tb.size : Int) := by omega
  have hN5 : (0 : Int) ≤ (N : Int) := by omega
  conv => arg 2; whnf
  unfold E33
  have hw := (HR.out).str (tb.extract 0 M) (by (try simp only [List.length_append, List.length_singleton, K.bsize, ByteArray.size_extract]); omega) (by simp only [ByteArray.size_extract]; omega)
  go_wp2_with fail
  with_reducible refine hw.mono ?_
  rintro e v0 ⟨rfl, hr⟩
  clear hw
  have G0 := Lib.hid hr
  clear hr
  have hw := (G0.out).dot (by (try simp only [List.length_append, K.bsize, ByteArray.size_extract]); omega)
  go_wp2_with fail
  with_reducible refine hw.mono ?_
  rintro e v1 ⟨rfl, hr⟩
  clear hw
  have G1 := Lib.hid hr
  clear hr
  have hw := (G1.out).str (tb.extract M tb.size) (by (try simp only [List.length_append, List.length_singleton, K.bsize, ByteArray.size_extract]); omega) (by simp only [ByteArray.size_extract]; omega)
  go_wp2_with fail
  with_reducible refine hw.mono ?_
  rintro e v2 ⟨rfl, hr⟩
  clear hw
  have G2 := Lib.hid hr
  clear hr
  go_wp2_with fail
  refine HK.out _ _ (back_E33 ?_) ?_
  · kernel_rfl
  · have h5 := G2.out
    try simp only [tail_data] at h5
    simpa [ext_data, List.append_assoc] using h5
set_option maxHeartbeats 4000000 in
set_option maxRecDepth 1000000 in
theorem arm9 (w wr : World) (p tg tn n : Nat) (T : Option Addr) (cTn : Nat) (x : Nat → Value) (j t N ub uo cU g3 c3 vb vo cV_ : Nat) (tb : ByteArray) (acc : List UInt8)
    (hjn : j < n) (_hn : n ≤ 1000) (htn : t < tn) (_hp : p < w.heap.size)
    (d5 : wr.cell? ⟨p, 5, none⟩ = some (.slice (some ⟨ub, uo, none⟩) n cU)) (d6 : wr.cell? ⟨p, 6, none⟩ = some (.slice (some ⟨vb, vo, none⟩) n cV_))
    (cU0 : wr.cell? ⟨ub, uo + j, none⟩ = some (.slice (some ⟨g3, 0, none⟩) 1 c3)) (cI : wr.cell? ⟨g3, 0, none⟩ = some (.int .i64 (t : Int)))
    (cQ : wr.cell? ⟨tg, t, none⟩ = some (.string tb)) (cV : wr.cell? ⟨vb, vo + j, none⟩ = some (.int .i32 (N : Int)))
    (hN1 : 1 ≤ N) (hN2 : N ≤ 1000) (hN3 : N < tb.size) (_hsz : tb.size ≤ 1000) (hR : TrRel w acc wr) (hacc : acc.length ≤ 90000000)
    (KK : Act → World → Prop) (hK : ∀ a wv, (∃ y, a = ⟨(E33 p tg tn w.heap.size n T cTn y j ).toArray, []⟩) → TrRel w (acc ++ (tb.data.toList.take N)) wv → KK a wv) :
    arm9C.wp Tryd.prog (Ends KK) ⟨(E33 p tg tn w.heap.size n T cTn x j ).toArray, []⟩ wr := by
  have HK := Lib.hid hK
  have HR := Lib.hid hR
  clear hK hR
  have hN3' : (N : Int) < (tb.size : Int) := by omega
  have hN0 : (0 : Int) < (N : Int) := by omega
  have hN4 : (N : Int) ≤ (tb.size : Int) := by omega
  have hN5 : (0 : Int) ≤ (N : Int) := by omega
  conv => arg 2; whnf
  unfold E33
  have hw := (HR.out).str (tb.extract 0 N) (by (try simp only [List.length_append, List.length_singleton, K.bsize, ByteArray.size_extract]); omega) (by simp only [ByteArray.size_extract]; omega)
  go_wp2_with fail
  with_reducible refine hw.mono ?_
  rintro e v0 ⟨rfl, hr⟩
  clear hw
  have G0 := Lib.hid hr
  clear hr
  go_wp2_with fail
  refine HK.out _ _ (back_E33 ?_) ?_
  · kernel_rfl
  · have h5 := G0.out
    try simp only [tail_data] at h5
    simpa [ext_data, List.append_assoc] using h5
set_option maxHeartbeats 4000000 in
set_option maxRecDepth 1000000 in
theorem arm10 (w wr : World) (p tg tn n : Nat) (T : Option Addr) (cTn : Nat) (x : Nat → Value) (j t N ub uo cU g3 c3 vb vo cV_ : Nat) (tb : ByteArray) (acc : List UInt8)
    (hjn : j < n) (_hn : n ≤ 1000) (htn : t < tn) (_hp : p < w.heap.size)
    (d5 : wr.cell? ⟨p, 5, none⟩ = some (.slice (some ⟨ub, uo, none⟩) n cU)) (d6 : wr.cell? ⟨p, 6, none⟩ = some (.slice (some ⟨vb, vo, none⟩) n cV_))
    (cU0 : wr.cell? ⟨ub, uo + j, none⟩ = some (.slice (some ⟨g3, 0, none⟩) 1 c3)) (cI : wr.cell? ⟨g3, 0, none⟩ = some (.int .i64 (t : Int)))
    (cQ : wr.cell? ⟨tg, t, none⟩ = some (.string tb)) (cV : wr.cell? ⟨vb, vo + j, none⟩ = some (.int .i32 (N : Int)))
    (hN1 : 1 ≤ N) (hN2 : N ≤ 1000) (hN3 : N < tb.size) (hsz : tb.size ≤ 1000) (hR : TrRel w acc wr) (hacc : acc.length ≤ 90000000)
    (KK : Act → World → Prop) (hK : ∀ a wv, (∃ y, a = ⟨(E33 p tg tn w.heap.size n T cTn y j ).toArray, []⟩) → TrRel w (acc ++ (tb.data.toList.drop (tb.size - N))) wv → KK a wv) :
    arm10C.wp Tryd.prog (Ends KK) ⟨(E33 p tg tn w.heap.size n T cTn x j ).toArray, []⟩ wr := by
  obtain ⟨M, hM⟩ : ∃ M : Nat, tb.size = M + N := ⟨tb.size - N, by omega⟩
  have hM1 : (tb.size : Int) - (N : Int) = (M : Int) := by omega
  have hM2 : (M : Int) ≤ (tb.size : Int) := by omega
  rw [show tb.size - N = M from by omega] at hK
  have hM3 : M ≤ tb.size := by omega
  have HM := Lib.hid hM
  clear hM
  have HK := Lib.hid hK
  have HR := Lib.hid hR
  clear hK hR
  have hN3' : (N : Int) < (tb.size : Int) := by omega
  have hN0 : (0 : Int) < (N : Int) := by omega
  have hN4 : (N : Int) ≤ (tb.size : Int) := by omega
  have hN5 : (0 : Int) ≤ (N : Int) := by omega
  conv => arg 2; whnf
  unfold E33
  have hw := (HR.out).str (tb.extract M tb.size) (by (try simp only [List.length_append, List.length_singleton, K.bsize, ByteArray.size_extract]); omega) (by simp only [ByteArray.size_extract]; omega)
  go_wp2_with fail
  with_reducible refine hw.mono ?_
  rintro e v0 ⟨rfl, hr⟩
  clear hw
  have G0 := Lib.hid hr
  clear hr
  go_wp2_with fail
  refine HK.out _ _ (back_E33 ?_) ?_
  · kernel_rfl
  · have h5 := G0.out
    try simp only [tail_data] at h5
    simpa [ext_data, List.append_assoc] using h5
end Go.Proofs.YtocfcajafkkhdaaDoor
end
