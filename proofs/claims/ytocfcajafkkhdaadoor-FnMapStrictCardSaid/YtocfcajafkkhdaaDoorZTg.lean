/-
  TransformTokenizedSubject, at all functions. Printed by wip/py/gen_tp.py from DoorTr.
-/
import Derived.Test.YtocfcajafkkhdaaDoorZTe
namespace Go.Proofs.YtocfcajafkkhdaaDoor
open Go.RowKit

set_option maxHeartbeats 8000000 in
set_option maxRecDepth 1000000 in
theorem tr_all (p tg : Nat) (src dest : ByteArray) (S D : List (List UInt8)) (ks : List Kn) (toks : List (List UInt8)) (w : World) (hT : TrAt w p src dest S D ks) (hp : p < w.heap.size)
    (hk : ks.length = D.length) (h0 : 0 < ks.length) (hn : ks.length ≤ 1000)
    (hD : Toks D) (hDl : ∀ t ∈ D, t.length ≤ 1000) (hl : K.Lies w (some ⟨tg, 0, none⟩) toks.length (fun j => (toks.map sv).getD j undef)) (htl : ∀ t ∈ toks, t.length ≤ 1000) (hne : ∀ t ∈ toks, t ≠ []) (htn : toks.length ≤ 1000)
    (o : Nat → List UInt8) (ho : ∀ j, j < ks.length → D.getD j [] ≠ [62] → Out2 D toks ks j (o j)) (hb62 : ∀ j, j < ks.length → D.getD j [] = [62] → (kAt ks j).ty = 0) (hS : 0 < S.length) (hSn : S.length ≤ 1000) :
    Calls Tryd.prog 33 #[.pointer (some ⟨p, 0, none⟩), .slice (some ⟨tg, 0, none⟩) toks.length 32] w (TrPost (finB D toks o ks.length (S.length - 1)) w) := by
  obtain ⟨A, cA, X, cX, T, cTn, U, cU, V, cV, Y, cY, hb, lA, lX, lT, ⟨us, hus, lU, hU⟩, lV, lY⟩ := hT.ex
  have HX := Lib.hid (And.intro (show TrX w p src dest S D ks A cA X cX T cTn U cU V cV Y cY us from ⟨hb, lA, lX, lT, hus, lU, hU, lV, lY⟩) hne)
  clear hne
  have c1 : w.cell? ⟨p, 1, none⟩ = some (.string dest) := by rw [Lib.cell_of_heap hb]; rfl
  have c2 : w.cell? ⟨p, 2, none⟩ = some (.slice A D.length cA) := by rw [Lib.cell_of_heap hb]; rfl
  have c3 : w.cell? ⟨p, 3, none⟩ = some (.slice X S.length cX) := by rw [Lib.cell_of_heap hb]; rfl
  have c4 : w.cell? ⟨p, 4, none⟩ = some (.slice T ks.length cTn) := by rw [Lib.cell_of_heap hb]; rfl
  have c5 : w.cell? ⟨p, 5, none⟩ = some (.slice U ks.length cU) := by rw [Lib.cell_of_heap hb]; rfl
  have c6 : w.cell? ⟨p, 6, none⟩ = some (.slice V ks.length cV) := by rw [Lib.cell_of_heap hb]; rfl
  have c7 : w.cell? ⟨p, 7, none⟩ = some (.slice Y ks.length cY) := by rw [Lib.cell_of_heap hb]; rfl
  have HB := Lib.hid hb
  have HL := Lib.hid (And.intro lA (And.intro lX (And.intro lT (And.intro lU (And.intro hU (And.intro lV lY))))))
  have HK := Lib.hid (And.intro hk hus)
  have HH := Lib.hid (And.intro hD (And.intro hDl (And.intro hl (And.intro htl (And.intro ho hb62)))))
  clear hD hDl hl htl ho hb62
  have hz : ((ks.length : Int) == 0) = false := by rw [beq_eq_false_iff_ne]; omega
  clear hb lA lX lT lU hU lV lY hk hus hT
  go_enter Tryd.func33, Tryd.ntmps33
  go_upto_region 6 with (fail)
  have HR0 := Lib.hid (show TrRel w [] (w.alloc (.cells #[.pointer none, .slice none 0 0] 90)) from ⟨Lib.fresh_isBuilder 90 5 w, (Below.refl _ _).alloc (Nat.le_refl _) _, by simp⟩)
  refine wp_loop_ghost_k (fun g a wr => ∃ (x : Nat → Value) (j : Nat), a = ⟨(F33 p tg toks.length w.heap.size ks.length T cTn x j).toArray, []⟩ ∧ g + j = ks.length ∧ Hid (TrRel w (pc o ks.length j) wr ∧ (pc o ks.length j).length ≤ 1001 * j ∧ fwc (D.take j) = false)) ks.length ?_ ?_
  · exact ⟨fun _ => undef, 0, by kernel_rfl, by omega, Lib.hid ⟨HR0.out, by simp [pc], rfl⟩⟩
  · rintro gk _ wr ⟨x, j, rfl, hgj, HR⟩ JJ KK hJ hK
    obtain ⟨tb_, to_, rfl, htl_, htc_⟩ := HL.out.2.2.1 h0
    have hcell : ∀ i v, w.cell? ⟨p, i, none⟩ = some v → wr.cell? ⟨p, i, none⟩ = some v := fun i v h => (HR.out.1.2.1.cell (p := ⟨p, i, none⟩) hp).trans h
    have d2 := hcell _ _ c2
    have d5 := hcell _ _ c5
    by_cases hlt : j < ks.length
    · have cT : wr.cell? ⟨tb_, to_ + j, none⟩ = some (kAt ks j).tyV := (HR.out.1.2.1.cell (p := ⟨tb_, to_ + j, none⟩) htl_).trans (htc_ j hlt)
      obtain ⟨ab, ao, rfl, hab, hac⟩ := HL.out.1 (by have := HK.out.1; omega)
      have hjD : j < D.length := by have := HK.out.1; omega
      have cA : wr.cell? ⟨ab, ao + j, none⟩ = some (sv (D.getD j [])) := by
        refine (HR.out.1.2.1.cell (p := ⟨ab, ao + j, none⟩) hab).trans ((hac j hjD).trans ?_)
        simp [List.getD, hjD]
      unfold Kn.tyV at cT
      have hc3 := c3
      clear htc_ hac hcell c1 c2 c3 c4 c5 c6 c7
      by_cases h62 : D.getD j [] = [62]
      · as_aux_lemma =>
        rw [HH.out.2.2.2.2.2 j hlt h62] at cT
        rw [h62] at cA
        have cA2 : wr.cell? ⟨ab, ao + j, none⟩ = some (.string ⟨#[62]⟩) := cA
        clear cA
        have H62 := Lib.hid h62
        clear h62
        unfold F33
        have hjl : j = D.length - 1 ∧ fwc D = true := by
          have e1 : D = D.take j ++ [62] :: D.drop (j + 1) := by
            conv => lhs; rw [← List.take_append_drop j D, List.drop_eq_getElem_cons hjD]
            have := H62.out
            simp [List.getD, hjD] at this
            rw [this]
          have e2 := HH.out.1.2 _ _ e1
          have e3 := congrArg List.length e2
          rw [List.length_drop, List.length_nil] at e3
          refine ⟨by omega, ?_⟩
          rw [e1, e2]
          simp [fwc]
        obtain ⟨hjl, hfw⟩ := hjl
        have hd3 : wr.cell? ⟨p, 3, none⟩ = some (.slice X S.length cX) := (HR.out.1.2.1.cell (p := ⟨p, 3, none⟩) hp).trans hc3
        have hDn : D.length ≤ 1000 := by rw [← HK.out.1]; exact hn
        have q0 : (0 : Int) ≤ (D.length : Int) - 1 := by omega
        have q1 : (D.length : Int) - 1 < (D.length : Int) := by omega
        have q2 : ((D.length : Int) - 1).toNat = j := by omega
        have q3 : IntKind.i64.wrap ((D.length : Int) - 1) = (D.length : Int) - 1 := IntWalk.i64_in _ (by omega)
        have HJ := Lib.hid (And.intro hjl hfw)
        clear hjl hfw
        go_upto_region 105 with (fail)
        go_quiet (fail)
        go_upto_region 106 with (fail)
        have hRd := HR.out.1.drewN nq
        have e3 : (wr.drewN nq).cell? ⟨p, 3, none⟩ = some (.slice X S.length cX) := hd3
        have HL2 := Lib.hid HR.out.2.1
        obtain ⟨wd, hwd⟩ : ∃ wd : World, wd = wr.drewN nq := ⟨_, rfl⟩
        rw [← hwd] at hRd e3 ⊢
        clear hwd HR d2 d5 cT cA2 hd3
        have HRd := Lib.hid hRd
        clear hRd
        obtain ⟨q, hq⟩ : ∃ q : Nat, S.length = q + 1 := ⟨S.length - 1, by omega⟩
        have hq1 : (S.length : Int) - 1 = (q : Int) := by omega
        have w1 : IntKind.i64.wrap ((toks.length : Int) - 1) = (toks.length : Int) - 1 := IntWalk.i64_in _ (by omega)
        have w2 : IntKind.i64.wrap ((S.length : Int) - 1) = (S.length : Int) - 1 := IntWalk.i64_in _ (by omega)
        have HQ := Lib.hid (And.intro hq hq1)
        clear hq hq1
        go_quiet (fail)
        go_upto_region 107 with (fail)
        rw [HQ.out.2]
        have HW := Lib.hid (And.intro w1 w2)
        clear w1 w2 q0 q1 q2 q3
        have HR3 := Lib.hid (HRd.out.drewN nq)
        generalize wd.drewN nq = we at HR3 ⊢
        clear e3 HRd
        refine wp_loop_ghost_k (fun g a wr => ∃ (x : Nat → Value) (i : Nat), a = ⟨(G33 p tg toks.length w.heap.size x i).toArray, []⟩ ∧ q ≤ i ∧ (i ≤ toks.length ∨ i = q) ∧ g = toks.length - i ∧ Hid (TrRel w (pc o ks.length j ++ pc (fun r => toks.getD (q + r) []) (toks.length - q) (i - q)) wr ∧ (pc (fun r => toks.getD (q + r) []) (toks.length - q) (i - q)).length ≤ 1001 * (i - q))) (toks.length - q) ?_ ?_
        · refine Exists.elim (backG (i := q) ?_) fun y hy => ⟨y, q, hy, Nat.le_refl _, .inr rfl, rfl, Lib.hid ⟨?_, ?_⟩⟩
          · kernel_rfl
          · rw [Nat.sub_self]; simpa [pc] using HR3.out
          · rw [Nat.sub_self]; simp [pc]
        · rintro gg _ wr ⟨x, i, rfl, hqi, hit, hgg, HR⟩ JJ2 KK2 hJ2 hK2
          by_cases hlt2 : i < toks.length
          · obtain ⟨qb, qo, hqq, hqb, hqc⟩ := HH.out.2.2.1 (by omega)
            injection hqq with hqq
            injection hqq with hqq1 hqq2 _
            subst hqq1 hqq2
            have cQ : wr.cell? ⟨tg, i, none⟩ = some (sv (toks.getD i [])) := by
              have h5 := (HR.out.1.2.1.cell (p := ⟨tg, 0 + i, none⟩) hqb).trans (hqc i hlt2)
              rw [Nat.zero_add] at h5
              rw [h5]
              simp [List.getD, hlt2]
            obtain ⟨tb, htb⟩ : ∃ tb : ByteArray, sv (toks.getD i []) = .string tb := ⟨_, rfl⟩
            have htl : tb.data.toList = toks.getD i [] := by unfold sv at htb; injection htb with htb; rw [← htb]
            rw [htb] at cQ
            have hsz : tb.size ≤ 1000 := by rw [← K.bsize, htl]; exact HH.out.2.2.2.1 _ (by simp [List.getD, hlt2])
            have HTL := Lib.hid htl
            clear htb htl hqc
            have hle : (pc o ks.length j ++ pc (fun r => toks.getD (q + r) []) (toks.length - q) (i - q)).length ≤ 4000000 := by rw [List.length_append]; have := HR.out.2; have := HL2.out; omega
            have hw := HR.out.1.str tb (by omega) (by omega)
            have HLE := Lib.hid hle
            clear hle
            unfold G33
            go_wp2_with fail
            with_reducible refine hw.mono ?_
            rintro e w1 ⟨rfl, hr1⟩
            clear hw
            have HR1 := Lib.hid hr1
            clear hr1
            by_cases hi1 : i + 1 < toks.length
            · have hi2 : (i : Int) < (toks.length : Int) - 1 := by omega
              have hw := HR1.out.byte (by have := HLE.out; rw [List.length_append, K.bsize]; omega)
              go_wp2_with fail
              with_reducible refine hw.mono ?_
              rintro e w2 ⟨rfl, hr2⟩
              clear hw
              have HR2 := Lib.hid (last_step hqi HTL.out (tot := toks.length) (.inl ⟨hi1, hr2⟩) HR.out.2 hsz)
              clear hr2
              go_wp2_with fail
              refine Handed.intro (gg - 1) (by omega) (hJ2 _ _ _ ?_)
              refine Exists.elim (backG (i := i + 1) ?_) fun y hy => ⟨y, i + 1, hy, by omega, .inl (by omega), by omega, HR2⟩
              kernel_rfl
            · have hi2 : ¬ (i : Int) < (toks.length : Int) - 1 := by omega
              have HR2 := Lib.hid (last_step hqi HTL.out (tot := toks.length) (.inr ⟨hi1, HR1.out⟩) HR.out.2 hsz)
              go_wp2_with fail
              refine Handed.intro (gg - 1) (by omega) (hJ2 _ _ _ ?_)
              refine Exists.elim (backG (i := i + 1) ?_) fun y hy => ⟨y, i + 1, hy, by omega, .inl (by omega), by omega, HR2⟩
              kernel_rfl
          · have hw := HR.out.1.done
            unfold G33
            go_wp2_with fail
            with_reducible refine hw.mono ?_
            rintro e w1 ⟨rfl, hb1⟩
            clear hw
            go_wp2_with fail
            go_ret
            refine ⟨?_, hb1⟩
            unfold finB
            rw [HJ.out.2, if_pos rfl, HQ.out.1, show q + 1 - 1 = q from by omega, show ks.length - 1 = j from by have := HJ.out.1; have := HK.out.1; omega]
            have hpd : pc (fun r => toks[q + r]?.getD []) (toks.length - q) (toks.length - q) = jn 46 (toks.drop q) := pc_drop toks q
            rw [show i - q = toks.length - q from by omega, hpd]
            rfl
      · have hO := HH.out.2.2.2.2.1 j hlt h62
        have hr := round_any w wr p tg src dest S D ks toks _ _ _ _ _ _ _ _ _ _ _ _ us HX.out.1 HK.out.1 hn HH.out.2.1 HH.out.2.2.1 HH.out.2.2.2.1 HX.out.2 htn j hlt h62 (o j) hO (pc o ks.length j) (by have := HR.out.2.1; omega) HR.out.1 x
        refine wp_code (c := bodyL) (by kernel_rfl) (wp_ends hr ?_)
        rintro _ v ⟨⟨y, rfl⟩, hr2⟩
        refine hK _ _ (Handed.intro (gk - 1) (by omega) (hJ _ _ _ ⟨y, j + 1, rfl, by omega, Lib.hid ⟨hr2, ?_, fwc_step HR.out.2.2 h62 hjD⟩⟩))
        have h1 := HR.out.2.1
        have h2 := hO.1
        have h3 : (if j + 1 < ks.length then [46] else [] : List UInt8).length ≤ 1 := by split <;> simp
        rw [pc, List.length_append, List.length_append]
        omega
    · as_aux_lemma =>
      obtain rfl : j = ks.length := by omega
      have hfw : fwc D = false := by
        have := HR.out.2.2
        rwa [List.take_of_length_le (by rw [HK.out.1]; exact Nat.le_refl _)] at this
      have hDp : 0 < D.length := by rw [← HK.out.1]; exact h0
      have hlast : D.getD (D.length - 1) [] ≠ [62] := by
        intro e
        have h5 : ([62] : List UInt8) ∈ D := by rw [← e, List.getD, List.getElem?_eq_getElem (by omega)]; exact List.getElem_mem _
        unfold fwc at hfw
        rw [List.any_eq_false] at hfw
        exact hfw _ h5 (by decide)
      obtain ⟨ab, ao, rfl, hab, hac⟩ := HL.out.1 hDp
      have cA : wr.cell? ⟨ab, ao + (D.length - 1), none⟩ = some (sv (D.getD (D.length - 1) [])) := by
        refine (HR.out.1.2.1.cell (p := ⟨ab, ao + (D.length - 1), none⟩) hab).trans ((hac _ (by omega)).trans ?_)
        have hd1 : D.length - 1 < D.length := by omega
        simp [List.getD, hd1]
      obtain ⟨tb, htb⟩ : ∃ tb : ByteArray, sv (D.getD (D.length - 1) []) = .string tb := ⟨_, rfl⟩
      have htl : tb.data.toList = D.getD (D.length - 1) [] := by unfold sv at htb; injection htb with htb; rw [← htb]
      rw [htb] at cA
      have b62 : (tb.toList == [62]) = false := by rw [ByteArray.toList_eq, htl, beq_eq_false_iff_ne]; exact hlast
      have hDn : D.length ≤ 1000 := by rw [← HK.out.1]; exact hn
      have q0 : (0 : Int) ≤ (D.length : Int) - 1 := by omega
      have q1 : (D.length : Int) - 1 < (D.length : Int) := by omega
      have q2 : ((D.length : Int) - 1).toNat = D.length - 1 := by omega
      have q3 : IntKind.i64.wrap ((D.length : Int) - 1) = (D.length : Int) - 1 := IntWalk.i64_in _ (by omega)
      have HFW := Lib.hid hfw
      clear hac hfw htb htl hlast htc_ hcell c1 c2 c3 c4 c5 c6 c7 d5
      unfold F33
      go_upto_region 105 with (fail)
      go_quiet (fail)
      go_wp2_with fail
      have hw := (HR.out.1.drewN nq).done
      with_reducible refine hw.mono ?_
      rintro e w1 ⟨rfl, hb1⟩
      clear hw
      go_wp2_with fail
      go_ret
      refine ⟨?_, hb1⟩
      unfold finB
      rw [HFW.out]
      rfl
end Go.Proofs.YtocfcajafkkhdaaDoor
