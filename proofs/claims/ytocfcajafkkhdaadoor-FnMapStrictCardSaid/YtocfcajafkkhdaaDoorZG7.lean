/-
  TransformTokenizedSubject.
  strings.Builder's WriteString: what else it leaves as it is.
-/
import Derived.Test.YtocfcajafkkhdaaDoorZG6
import Derived.Deep.QuietTactic
import Derived.BigQuiet
import Derived.IntWalk
/- Tr -/
section
namespace Go.Proofs.YtocfcajafkkhdaaDoor
open Go.RowKit

/-- what is written for a token of the destination -/
def OutOk (D toks : List (List UInt8)) (ks : List Kn) (j : Nat) (o : List UInt8) : Prop :=
  ((kAt ks j).ty = 0 ∧ o = D.getD j []) ∨ ((kAt ks j).ty = 3 ∧ ∃ t : Nat, (kAt ks j).is = [(t : Int)] ∧ t < toks.length ∧ o = toks.getD t [])
def TrRel (w : World) (l : List UInt8) (wr : World) : Prop := Lib.IsBuilder 90 5 w.heap.size w.heap.size (Lib.byteCells l) wr ∧ Below w.heap.size w wr ∧ w.heap.size < wr.heap.size
theorem byteCells_app (a b : List UInt8) : Lib.byteCells (a ++ b) = Lib.byteCells a ++ Lib.byteCells b := by simp [Lib.byteCells]
theorem TrRel.str {w wr : World} {l : List UInt8} (h : TrRel w l wr) (s : ByteArray) (h1 : l.length ≤ 100000000) (h2 : s.size ≤ 100000) :
    Calls Tryd.prog 43 #[.pointer (some ⟨w.heap.size, 0, none⟩), .string s] wr (fun e w' => e = .returned (.tuple #[.int .i64 s.size, .nilIface]) ∧ TrRel w (l ++ s.data.toList) w') :=
  (writeString_any _ _ _ s wr h.1 (by rw [Lib.byteCells_length]; omega) (Nat.le_of_lt h.2.2)).mono fun _ _ ⟨r1, r2, r3⟩ => ⟨r1, by
    refine ⟨.inr ?_, h.2.1.trans r3, Nat.lt_of_lt_of_le h.2.2 r3.size⟩
    rw [byteCells_app]
    exact r2⟩
theorem TrRel.byte {w wr : World} {l : List UInt8} (h : TrRel w l wr) (h1 : l.length ≤ 100000000) :
    Calls Tryd.prog 46 #[.pointer (some ⟨w.heap.size, 0, none⟩), .int .u8 46] wr (fun e w' => e = .returned .nilIface ∧ TrRel w (l ++ [46]) w') :=
  (writeByte_any _ _ _ 46 wr h.1 (by rw [Lib.byteCells_length]; omega) (Nat.le_of_lt h.2.2)).mono fun _ _ ⟨r1, r2, r3⟩ => ⟨r1, by
    refine ⟨.inr ?_, h.2.1.trans r3, Nat.lt_of_lt_of_le h.2.2 r3.size⟩
    rw [byteCells_app]
    exact r2⟩
/-- all that is written -/
def finB (D toks : List (List UInt8)) (o : Nat → List UInt8) (n q : Nat) : List UInt8 := if fwc D = true then pc o n (n - 1) ++ jn 46 (toks.drop q) else pc o n n
def TrPost (l : List UInt8) (w : World) (e : Ending) (w' : World) : Prop := e = .returned (.string ⟨l.toArray⟩) ∧ Below w.heap.size w w'
theorem TrRel.drewN {w wr : World} {l : List UInt8} (h : TrRel w l wr) (n : Nat) : TrRel w l (wr.drewN n) := ⟨h.1, K.below_drewN h.2.1 n, h.2.2⟩
theorem TrRel.done {w wr : World} {l : List UInt8} (h : TrRel w l wr) : Calls Tryd.prog 47 #[.pointer (some ⟨w.heap.size, 0, none⟩)] wr (TrPost l w) :=
  (Tryd.Builder_String_any _ _ l wr h.1 (Nat.le_of_lt h.2.2)).mono fun _ _ ⟨r1, r2⟩ => ⟨r1, h.2.1.trans r2⟩
theorem fwc_step {D : List (List UInt8)} {j : Nat} (h : fwc (D.take j) = false) (h2 : D.getD j [] ≠ [62]) (hj : j < D.length) : fwc (D.take (j + 1)) = false := by
  rw [List.take_succ_eq_append_getElem hj, fwc_snoc, h, Bool.false_or, beq_eq_false_iff_ne]
  simpa [List.getD, hj] using h2
theorem step_mid {w w2 : World} {D : List (List UInt8)} {o : Nat → List UInt8} {n j : Nat} {t : List UInt8} {d : List UInt8} (h1 : (pc o n j ++ t).length ≤ 1001 * j + 1000) (h2 : fwc (D.take j) = false) (h3 : t = d ∧ o j = d) (h4 : D.getD j [] ≠ [62]) (hj : j < D.length) (hj1 : j + 1 < n)
    (hr : TrRel w (pc o n j ++ t ++ [46]) w2) : TrRel w (pc o n (j + 1)) w2 ∧ (pc o n (j + 1)).length ≤ 1001 * (j + 1) ∧ fwc (D.take (j + 1)) = false := by
  have e : pc o n (j + 1) = pc o n j ++ t ++ [46] := by rw [pc, if_pos hj1, h3.1, h3.2]
  rw [e]
  exact ⟨hr, by rw [List.length_append, List.length_singleton]; omega, fwc_step h2 h4 hj⟩
theorem step_end {w w2 : World} {D : List (List UInt8)} {o : Nat → List UInt8} {n j : Nat} {t : List UInt8} {d : List UInt8} (h1 : (pc o n j ++ t).length ≤ 1001 * j + 1000) (h2 : fwc (D.take j) = false) (h3 : t = d ∧ o j = d) (h4 : D.getD j [] ≠ [62]) (hj : j < D.length) (hj1 : ¬ j + 1 < n)
    (hr : TrRel w (pc o n j ++ t) w2) : TrRel w (pc o n (j + 1)) w2 ∧ (pc o n (j + 1)).length ≤ 1001 * (j + 1) ∧ fwc (D.take (j + 1)) = false := by
  have e : pc o n (j + 1) = pc o n j ++ t := by rw [pc, if_neg hj1, h3.1, h3.2, List.append_nil]
  rw [e]
  exact ⟨hr, by omega, fwc_step h2 h4 hj⟩
theorem pc_drop (toks : List (List UInt8)) (q : Nat) : pc (fun r => toks.getD (q + r) []) (toks.length - q) (toks.length - q) = jn 46 (toks.drop q) := by
  rcases Nat.eq_zero_or_pos (toks.length - q) with h | h
  · rw [h, List.drop_of_length_le (by omega)]; rfl
  · rw [pc_all _ _ h]
    congr 1
    apply List.ext_getElem
    · simp
    · intro k h1 h2
      simp at h1
      simp [List.getD, show q + k < toks.length by omega]
theorem last_step {w w2 : World} {toks : List (List UInt8)} {base : List UInt8} {q i tot : Nat} {ds : ByteArray} (hq : q ≤ i) (ht : ds.data.toList = toks.getD i [])
    (hr : (i + 1 < tot ∧ TrRel w (base ++ pc (fun r => toks.getD (q + r) []) (tot - q) (i - q) ++ ds.data.toList ++ [46]) w2) ∨ (¬ i + 1 < tot ∧ TrRel w (base ++ pc (fun r => toks.getD (q + r) []) (tot - q) (i - q) ++ ds.data.toList) w2))
    (hl : (pc (fun r => toks.getD (q + r) []) (tot - q) (i - q)).length ≤ 1001 * (i - q)) (hs : ds.size ≤ 1000) :
    TrRel w (base ++ pc (fun r => toks.getD (q + r) []) (tot - q) (i + 1 - q)) w2 ∧ (pc (fun r => toks.getD (q + r) []) (tot - q) (i + 1 - q)).length ≤ 1001 * (i + 1 - q) := by
  rw [show i + 1 - q = (i - q) + 1 from by omega]
  unfold pc
  rw [show q + (i - q) = i from by omega, ← ht]
  rcases hr with ⟨h1, h2⟩ | ⟨h1, h2⟩
  · rw [if_pos (by omega)]
    refine ⟨by simpa using h2, ?_⟩
    rw [List.length_append, List.length_append, K.bsize, List.length_singleton]; omega
  · rw [if_neg (by omega), List.append_nil]
    refine ⟨by simpa using h2, ?_⟩
    rw [List.length_append, K.bsize]; omega
set_option maxHeartbeats 8000000 in
set_option maxRecDepth 1000000 in
theorem tr_any (p tg : Nat) (src dest : ByteArray) (S D : List (List UInt8)) (ks : List Kn) (toks : List (List UInt8)) (w : World) (hT : TrAt w p src dest S D ks) (hp : p < w.heap.size)
    (hk : ks.length = D.length) (h0 : 0 < ks.length) (hn : ks.length ≤ 1000)
    (hD : Toks D) (hDl : ∀ t ∈ D, t.length ≤ 1000) (hl : K.Lies w (some ⟨tg, 0, none⟩) toks.length (fun j => (toks.map sv).getD j undef)) (htl : ∀ t ∈ toks, t.length ≤ 1000) (htn : toks.length ≤ 1000)
    (o : Nat → List UInt8) (ho : ∀ j, j < ks.length → D.getD j [] ≠ [62] → OutOk D toks ks j (o j)) (hb62 : ∀ j, j < ks.length → D.getD j [] = [62] → (kAt ks j).ty = 0) (hS : 0 < S.length) (hSn : S.length ≤ 1000) :
    Calls Tryd.prog 33 #[.pointer (some ⟨p, 0, none⟩), .slice (some ⟨tg, 0, none⟩) toks.length 32] w (TrPost (finB D toks o ks.length (S.length - 1)) w) := by
  obtain ⟨A, cA, X, cX, T, cT, U, cU, V, cV, Y, cY, hb, lA, lX, lT, ⟨us, hus, lU, hU⟩, lV, lY⟩ := hT.ex
  have c1 : w.cell? ⟨p, 1, none⟩ = some (.string dest) := by rw [Lib.cell_of_heap hb]; rfl
  have c2 : w.cell? ⟨p, 2, none⟩ = some (.slice A D.length cA) := by rw [Lib.cell_of_heap hb]; rfl
  have c3 : w.cell? ⟨p, 3, none⟩ = some (.slice X S.length cX) := by rw [Lib.cell_of_heap hb]; rfl
  have c4 : w.cell? ⟨p, 4, none⟩ = some (.slice T ks.length cT) := by rw [Lib.cell_of_heap hb]; rfl
  have c5 : w.cell? ⟨p, 5, none⟩ = some (.slice U ks.length cU) := by rw [Lib.cell_of_heap hb]; rfl
  have c6 : w.cell? ⟨p, 6, none⟩ = some (.slice V ks.length cV) := by rw [Lib.cell_of_heap hb]; rfl
  have c7 : w.cell? ⟨p, 7, none⟩ = some (.slice Y ks.length cY) := by rw [Lib.cell_of_heap hb]; rfl
  have HB := Lib.hid hb
  have HL := Lib.hid (And.intro lA (And.intro lX (And.intro lT (And.intro lU (And.intro hU (And.intro lV lY))))))
  have HK := Lib.hid (And.intro hk hus)
  have HH := Lib.hid (And.intro hD (And.intro hDl (And.intro hl (And.intro htl (And.intro ho hb62)))))
  clear hD hDl hl htl ho hb62
  have hz : ((ks.length : Int) == 0) = false := by rw [beq_eq_false_iff_ne]; omega
  clear hb lA lX lT lU hU lV lY hk hus hT
  go_enter Tryd.func33, Tryd.ntmps33
  go_upto_region 6 with (fail)
  have HR0 := Lib.hid (show TrRel w [] (w.alloc (.cells #[.pointer none, .slice none 0 0] 90)) from ⟨Lib.fresh_isBuilder 90 5 w, (Below.refl _ _).alloc (Nat.le_refl _) _, by simp⟩)
  refine wp_loop_ghost_k (fun g a wr => ∃ (x : Nat → Value) (j : Nat), a = ⟨(F33 p tg toks.length w.heap.size ks.length T cT x j).toArray, []⟩ ∧ g + j = ks.length ∧ Hid (TrRel w (pc o ks.length j) wr ∧ (pc o ks.length j).length ≤ 1001 * j ∧ fwc (D.take j) = false)) ks.length ?_ ?_
  · exact ⟨fun _ => undef, 0, by kernel_rfl, by omega, Lib.hid ⟨HR0.out, by simp [pc], rfl⟩⟩
  · rintro gk _ wr ⟨x, j, rfl, hgj, HR⟩ JJ KK hJ hK
    obtain ⟨tb_, to_, rfl, htl_, htc_⟩ := HL.out.2.2.1 h0
    have hcell : ∀ i v, w.cell? ⟨p, i, none⟩ = some v → wr.cell? ⟨p, i, none⟩ = some v := fun i v h => (HR.out.1.2.1.cell (p := ⟨p, i, none⟩) hp).trans h
    have d2 := hcell _ _ c2
    have d5 := hcell _ _ c5
    by_cases hlt : j < ks.length
    · have cT : wr.cell? ⟨tb_, to_ + j, none⟩ = some (kAt ks j).tyV := (HR.out.1.2.1.cell (p := ⟨tb_, to_ + j, none⟩) htl_).trans (htc_ j hlt)
      obtain ⟨ab, ao, rfl, hab, hac⟩ := HL.out.1 (by have := HK.out.1; omega)
      have hjD : j < D.length := by have := HK.out.1; omega
      have cA : wr.cell? ⟨ab, ao + j, none⟩ = some (sv (D.getD j [])) := by
        refine (HR.out.1.2.1.cell (p := ⟨ab, ao + j, none⟩) hab).trans ((hac j hjD).trans ?_)
        simp [List.getD, hjD]
      unfold Kn.tyV at cT
      have hc3 := c3
      clear htc_ hac hcell c1 c2 c3 c4 c5 c6 c7
      by_cases h62 : D.getD j [] = [62]
      · as_aux_lemma =>
        rw [HH.out.2.2.2.2.2 j hlt h62] at cT
        rw [h62] at cA
        have cA2 : wr.cell? ⟨ab, ao + j, none⟩ = some (.string ⟨#[62]⟩) := cA
        clear cA
        have H62 := Lib.hid h62
        clear h62
        unfold F33
        have hjl : j = D.length - 1 ∧ fwc D = true := by
          have e1 : D = D.take j ++ [62] :: D.drop (j + 1) := by
            conv => lhs; rw [← List.take_append_drop j D, List.drop_eq_getElem_cons hjD]
            have := H62.out
            simp [List.getD, hjD] at this
            rw [this]
          have e2 := HH.out.1.2 _ _ e1
          have e3 := congrArg List.length e2
          rw [List.length_drop, List.length_nil] at e3
          refine ⟨by omega, ?_⟩
          rw [e1, e2]
          simp [fwc]
        obtain ⟨hjl, hfw⟩ := hjl
        have hd3 : wr.cell? ⟨p, 3, none⟩ = some (.slice X S.length cX) := (HR.out.1.2.1.cell (p := ⟨p, 3, none⟩) hp).trans hc3
        have hDn : D.length ≤ 1000 := by rw [← HK.out.1]; exact hn
        have q0 : (0 : Int) ≤ (D.length : Int) - 1 := by omega
        have q1 : (D.length : Int) - 1 < (D.length : Int) := by omega
        have q2 : ((D.length : Int) - 1).toNat = j := by omega
        have q3 : IntKind.i64.wrap ((D.length : Int) - 1) = (D.length : Int) - 1 := IntWalk.i64_in _ (by omega)
        have HJ := Lib.hid (And.intro hjl hfw)
        clear hjl hfw
        go_upto_region 105 with (fail)
        go_quiet (fail)
        go_upto_region 106 with (fail)
        have hRd := HR.out.1.drewN nq
        have e3 : (wr.drewN nq).cell? ⟨p, 3, none⟩ = some (.slice X S.length cX) := hd3
        have HL2 := Lib.hid HR.out.2.1
        obtain ⟨wd, hwd⟩ : ∃ wd : World, wd = wr.drewN nq := ⟨_, rfl⟩
        rw [← hwd] at hRd e3 ⊢
        clear hwd HR d2 d5 cT cA2 hd3
        have HRd := Lib.hid hRd
        clear hRd
        obtain ⟨q, hq⟩ : ∃ q : Nat, S.length = q + 1 := ⟨S.length - 1, by omega⟩
        have hq1 : (S.length : Int) - 1 = (q : Int) := by omega
        have w1 : IntKind.i64.wrap ((toks.length : Int) - 1) = (toks.length : Int) - 1 := IntWalk.i64_in _ (by omega)
        have w2 : IntKind.i64.wrap ((S.length : Int) - 1) = (S.length : Int) - 1 := IntWalk.i64_in _ (by omega)
        have HQ := Lib.hid (And.intro hq hq1)
        clear hq hq1
        go_quiet (fail)
        go_upto_region 107 with (fail)
        rw [HQ.out.2]
        have HW := Lib.hid (And.intro w1 w2)
        clear w1 w2 q0 q1 q2 q3
        have HR3 := Lib.hid (HRd.out.drewN nq)
        generalize wd.drewN nq = we at HR3 ⊢
        clear e3 HRd
        refine wp_loop_ghost_k (fun g a wr => ∃ (x : Nat → Value) (i : Nat), a = ⟨(G33 p tg toks.length w.heap.size x i).toArray, []⟩ ∧ q ≤ i ∧ (i ≤ toks.length ∨ i = q) ∧ g = toks.length - i ∧ Hid (TrRel w (pc o ks.length j ++ pc (fun r => toks.getD (q + r) []) (toks.length - q) (i - q)) wr ∧ (pc (fun r => toks.getD (q + r) []) (toks.length - q) (i - q)).length ≤ 1001 * (i - q))) (toks.length - q) ?_ ?_
        · refine Exists.elim (backG (i := q) ?_) fun y hy => ⟨y, q, hy, Nat.le_refl _, .inr rfl, rfl, Lib.hid ⟨?_, ?_⟩⟩
          · kernel_rfl
          · rw [Nat.sub_self]; simpa [pc] using HR3.out
          · rw [Nat.sub_self]; simp [pc]
        · rintro gg _ wr ⟨x, i, rfl, hqi, hit, hgg, HR⟩ JJ2 KK2 hJ2 hK2
          by_cases hlt2 : i < toks.length
          · obtain ⟨qb, qo, hqq, hqb, hqc⟩ := HH.out.2.2.1 (by omega)
            injection hqq with hqq
            injection hqq with hqq1 hqq2 _
            subst hqq1 hqq2
            have cQ : wr.cell? ⟨tg, i, none⟩ = some (sv (toks.getD i [])) := by
              have h5 := (HR.out.1.2.1.cell (p := ⟨tg, 0 + i, none⟩) hqb).trans (hqc i hlt2)
              rw [Nat.zero_add] at h5
              rw [h5]
              simp [List.getD, hlt2]
            obtain ⟨tb, htb⟩ : ∃ tb : ByteArray, sv (toks.getD i []) = .string tb := ⟨_, rfl⟩
            have htl : tb.data.toList = toks.getD i [] := by unfold sv at htb; injection htb with htb; rw [← htb]
            rw [htb] at cQ
            have hsz : tb.size ≤ 1000 := by rw [← K.bsize, htl]; exact HH.out.2.2.2.1 _ (by simp [List.getD, hlt2])
            have HTL := Lib.hid htl
            clear htb htl hqc
            have hle : (pc o ks.length j ++ pc (fun r => toks.getD (q + r) []) (toks.length - q) (i - q)).length ≤ 4000000 := by rw [List.length_append]; have := HR.out.2; have := HL2.out; omega
            have hw := HR.out.1.str tb (by omega) (by omega)
            have HLE := Lib.hid hle
            clear hle
            unfold G33
            go_wp2_with fail
            with_reducible refine hw.mono ?_
            rintro e w1 ⟨rfl, hr1⟩
            clear hw
            have HR1 := Lib.hid hr1
            clear hr1
            by_cases hi1 : i + 1 < toks.length
            · have hi2 : (i : Int) < (toks.length : Int) - 1 := by omega
              have hw := HR1.out.byte (by have := HLE.out; rw [List.length_append, K.bsize]; omega)
              go_wp2_with fail
              with_reducible refine hw.mono ?_
              rintro e w2 ⟨rfl, hr2⟩
              clear hw
              have HR2 := Lib.hid (last_step hqi HTL.out (tot := toks.length) (.inl ⟨hi1, hr2⟩) HR.out.2 hsz)
              clear hr2
              go_wp2_with fail
              refine Handed.intro (gg - 1) (by omega) (hJ2 _ _ _ ?_)
              refine Exists.elim (backG (i := i + 1) ?_) fun y hy => ⟨y, i + 1, hy, by omega, .inl (by omega), by omega, HR2⟩
              kernel_rfl
            · have hi2 : ¬ (i : Int) < (toks.length : Int) - 1 := by omega
              have HR2 := Lib.hid (last_step hqi HTL.out (tot := toks.length) (.inr ⟨hi1, HR1.out⟩) HR.out.2 hsz)
              go_wp2_with fail
              refine Handed.intro (gg - 1) (by omega) (hJ2 _ _ _ ?_)
              refine Exists.elim (backG (i := i + 1) ?_) fun y hy => ⟨y, i + 1, hy, by omega, .inl (by omega), by omega, HR2⟩
              kernel_rfl
          · have hw := HR.out.1.done
            unfold G33
            go_wp2_with fail
            with_reducible refine hw.mono ?_
            rintro e w1 ⟨rfl, hb1⟩
            clear hw
            go_wp2_with fail
            go_ret
            refine ⟨?_, hb1⟩
            unfold finB
            rw [HJ.out.2, if_pos rfl, HQ.out.1, show q + 1 - 1 = q from by omega, show ks.length - 1 = j from by have := HJ.out.1; have := HK.out.1; omega]
            have hpd : pc (fun r => toks[q + r]?.getD []) (toks.length - q) (toks.length - q) = jn 46 (toks.drop q) := pc_drop toks q
            rw [show i - q = toks.length - q from by omega, hpd]
            rfl
      · have hO := HH.out.2.2.2.2.1 j hlt h62
        unfold OutOk at hO
        generalize hkn : kAt ks j = kn at hO cT
        have HKN := Lib.hid hkn
        have H62 := Lib.hid h62
        clear hkn h62
        obtain ⟨ty, is, arg, str⟩ := kn
        rcases hO with ⟨hty, hoj⟩ | ⟨hty, t, hist, htk, hoj⟩
        · dsimp only at hty cT
          subst hty
          obtain ⟨tb, htb⟩ : ∃ tb : ByteArray, sv (D.getD j []) = .string tb := ⟨_, rfl⟩
          have htl : tb.data.toList = D.getD j [] := by unfold sv at htb; injection htb with htb; rw [← htb]
          rw [htb] at cA
          have hsz : tb.size ≤ 1000 := by rw [← K.bsize, htl]; exact HH.out.2.1 _ (by simp [List.getD, hjD])
          have HTL := Lib.hid (And.intro htl hoj)
          clear htb htl hoj
          by_cases h1 : tb.size = 1
          · as_aux_lemma =>
            have h1' : 0 < tb.size := by omega
            have n62 : tb[0]'h1' ≠ 62 := fun e => H62.out (by
              rw [← HTL.out.1]
              have hb := K.bsize tb
              rw [h1] at hb
              obtain ⟨x, hx⟩ := List.length_eq_one_iff.1 hb
              have e0 : tb.data.toList[0]? = some tb[0] := get_at (by omega)
              rw [hx] at e0 ⊢
              rw [e] at e0
              simpa using e0)
            have b62 : ((((tb[0]'h1').toNat : Nat) : Int) == 62) = false := ne_int n62
            have z1 : ((tb.size : Int) == 1) = true := by rw [h1]; rfl
            have hw := HR.out.1.str tb (by have := HR.out.2.1; omega) (by omega)
            clear h1
            unfold F33
            go_wp2_with fail
            with_reducible refine hw.mono ?_
            rintro e w1 ⟨rfl, hr1⟩
            clear hw
            have hlen : (pc o ks.length j ++ tb.data.toList).length ≤ 1001 * j + 1000 := by rw [List.length_append, K.bsize]; have := HR.out.2.1; omega
            have HR1 := Lib.hid (And.intro hr1 hlen)
            clear hr1 hlen
            by_cases hj1 : j + 1 < ks.length
            · have hj2 : (j : Int) < (ks.length : Int) - 1 := by omega
              have hw := HR1.out.1.byte (by have := HR1.out.2; omega)
              go_wp2_with fail
              with_reducible refine hw.mono ?_
              rintro e w2 ⟨rfl, hr2⟩
              clear hw
              have HR2 := Lib.hid (step_mid HR1.out.2 HR.out.2.2 (And.intro HTL.out.1 HTL.out.2) H62.out hjD hj1 hr2)
              clear hr2
              go_wp2_with fail
              refine Handed.intro (gk - 1) (by omega) (hJ _ _ _ ?_)
              refine Exists.elim (back33 (j := j + 1) ?_) fun y hy => ⟨y, j + 1, hy, by omega, HR2⟩
              kernel_rfl
            · have hj2 : ¬ (j : Int) < (ks.length : Int) - 1 := by omega
              have HR2 := Lib.hid (step_end HR1.out.2 HR.out.2.2 (And.intro HTL.out.1 HTL.out.2) H62.out hjD hj1 HR1.out.1)
              go_wp2_with fail
              refine Handed.intro (gk - 1) (by omega) (hJ _ _ _ ?_)
              refine Exists.elim (back33 (j := j + 1) ?_) fun y hy => ⟨y, j + 1, hy, by omega, HR2⟩
              kernel_rfl
          · as_aux_lemma =>
            have z1 : ((tb.size : Int) == 1) = false := by rw [beq_eq_false_iff_ne]; omega
            have hw := HR.out.1.str tb (by have := HR.out.2.1; omega) (by omega)
            clear h1
            unfold F33
            go_wp2_with fail
            with_reducible refine hw.mono ?_
            rintro e w1 ⟨rfl, hr1⟩
            clear hw
            have hlen : (pc o ks.length j ++ tb.data.toList).length ≤ 1001 * j + 1000 := by rw [List.length_append, K.bsize]; have := HR.out.2.1; omega
            have HR1 := Lib.hid (And.intro hr1 hlen)
            clear hr1 hlen
            by_cases hj1 : j + 1 < ks.length
            · have hj2 : (j : Int) < (ks.length : Int) - 1 := by omega
              have hw := HR1.out.1.byte (by have := HR1.out.2; omega)
              go_wp2_with fail
              with_reducible refine hw.mono ?_
              rintro e w2 ⟨rfl, hr2⟩
              clear hw
              have HR2 := Lib.hid (step_mid HR1.out.2 HR.out.2.2 (And.intro HTL.out.1 HTL.out.2) H62.out hjD hj1 hr2)
              clear hr2
              go_wp2_with fail
              refine Handed.intro (gk - 1) (by omega) (hJ _ _ _ ?_)
              refine Exists.elim (back33 (j := j + 1) ?_) fun y hy => ⟨y, j + 1, hy, by omega, HR2⟩
              kernel_rfl
            · have hj2 : ¬ (j : Int) < (ks.length : Int) - 1 := by omega
              have HR2 := Lib.hid (step_end HR1.out.2 HR.out.2.2 (And.intro HTL.out.1 HTL.out.2) H62.out hjD hj1 HR1.out.1)
              go_wp2_with fail
              refine Handed.intro (gk - 1) (by omega) (hJ _ _ _ ?_)
              refine Exists.elim (back33 (j := j + 1) ?_) fun y hy => ⟨y, j + 1, hy, by omega, HR2⟩
              kernel_rfl
        · as_aux_lemma =>
          dsimp only at hty cT
          subst hty
          dsimp only at hist
          subst hist
          obtain ⟨ub, uo, rfl, hub, huc⟩ := HL.out.2.2.2.1 h0
          have cU0 : wr.cell? ⟨ub, uo + j, none⟩ = some (us.getD j undef) := (HR.out.1.2.1.cell (p := ⟨ub, uo + j, none⟩) hub).trans (huc j hlt)
          have hI := HL.out.2.2.2.2.1 j hlt
          rw [HKN.out] at hI
          obtain ⟨g3, c3, hus3, hg3, hc3⟩ := hI.lies
          rw [hus3] at cU0
          have cI : wr.cell? ⟨g3, 0, none⟩ = some (.int .i64 (t : Int)) := (HR.out.1.2.1.cell (p := ⟨g3, 0, none⟩) hg3).trans (hc3 0 (by simp))
          obtain ⟨qb, qo, hq, hqb, hqc⟩ := HH.out.2.2.1 (by omega)
          injection hq with hq
          injection hq with hq1 hq2 _
          subst hq1 hq2
          have cQ : wr.cell? ⟨tg, t, none⟩ = some (sv (toks.getD t [])) := by
            have h5 := (HR.out.1.2.1.cell (p := ⟨tg, 0 + t, none⟩) hqb).trans (hqc t htk)
            rw [Nat.zero_add] at h5
            rw [h5]
            simp [List.getD, htk]
          have hln : ([(t : Int)] : List Int).length = 1 := rfl
          rw [hln] at cU0
          clear huc hI hus3 hc3 hqc hln
          obtain ⟨tb, htb⟩ : ∃ tb : ByteArray, sv (toks.getD t []) = .string tb := ⟨_, rfl⟩
          have htl : tb.data.toList = toks.getD t [] := by unfold sv at htb; injection htb with htb; rw [← htb]
          rw [htb] at cQ
          have hsz : tb.size ≤ 1000 := by rw [← K.bsize, htl]; exact HH.out.2.2.2.1 _ (by simp [List.getD, htk])
          have HTL := Lib.hid (And.intro htl hoj)
          clear htb htl hoj
          have htk2 : ¬ ((toks.length : Int) ≤ (t : Int)) := by omega
          have hw := HR.out.1.str tb (by have := HR.out.2.1; omega) (by omega)
          unfold F33
          go_wp2_with fail
          with_reducible refine hw.mono ?_
          rintro e w1 ⟨rfl, hr1⟩
          clear hw
          have hlen : (pc o ks.length j ++ tb.data.toList).length ≤ 1001 * j + 1000 := by rw [List.length_append, K.bsize]; have := HR.out.2.1; omega
          have HR1 := Lib.hid (And.intro hr1 hlen)
          clear hr1 hlen
          by_cases hj1 : j + 1 < ks.length
          · have hj2 : (j : Int) < (ks.length : Int) - 1 := by omega
            have hw := HR1.out.1.byte (by have := HR1.out.2; omega)
            go_wp2_with fail
            with_reducible refine hw.mono ?_
            rintro e w2 ⟨rfl, hr2⟩
            clear hw
            have HR2 := Lib.hid (step_mid HR1.out.2 HR.out.2.2 (And.intro HTL.out.1 HTL.out.2) H62.out hjD hj1 hr2)
            clear hr2
            go_wp2_with fail
            refine Handed.intro (gk - 1) (by omega) (hJ _ _ _ ?_)
            refine Exists.elim (back33 (j := j + 1) ?_) fun y hy => ⟨y, j + 1, hy, by omega, HR2⟩
            kernel_rfl
          · have hj2 : ¬ (j : Int) < (ks.length : Int) - 1 := by omega
            have HR2 := Lib.hid (step_end HR1.out.2 HR.out.2.2 (And.intro HTL.out.1 HTL.out.2) H62.out hjD hj1 HR1.out.1)
            go_wp2_with fail
            refine Handed.intro (gk - 1) (by omega) (hJ _ _ _ ?_)
            refine Exists.elim (back33 (j := j + 1) ?_) fun y hy => ⟨y, j + 1, hy, by omega, HR2⟩
            kernel_rfl
    · as_aux_lemma =>
      obtain rfl : j = ks.length := by omega
      have hfw : fwc D = false := by
        have := HR.out.2.2
        rwa [List.take_of_length_le (by rw [HK.out.1]; exact Nat.le_refl _)] at this
      have hDp : 0 < D.length := by rw [← HK.out.1]; exact h0
      have hlast : D.getD (D.length - 1) [] ≠ [62] := by
        intro e
        have h5 : ([62] : List UInt8) ∈ D := by rw [← e, List.getD, List.getElem?_eq_getElem (by omega)]; exact List.getElem_mem _
        unfold fwc at hfw
        rw [List.any_eq_false] at hfw
        exact hfw _ h5 (by decide)
      obtain ⟨ab, ao, rfl, hab, hac⟩ := HL.out.1 hDp
      have cA : wr.cell? ⟨ab, ao + (D.length - 1), none⟩ = some (sv (D.getD (D.length - 1) [])) := by
        refine (HR.out.1.2.1.cell (p := ⟨ab, ao + (D.length - 1), none⟩) hab).trans ((hac _ (by omega)).trans ?_)
        have hd1 : D.length - 1 < D.length := by omega
        simp [List.getD, hd1]
      obtain ⟨tb, htb⟩ : ∃ tb : ByteArray, sv (D.getD (D.length - 1) []) = .string tb := ⟨_, rfl⟩
      have htl : tb.data.toList = D.getD (D.length - 1) [] := by unfold sv at htb; injection htb with htb; rw [← htb]
      rw [htb] at cA
      have b62 : (tb.toList == [62]) = false := by rw [ByteArray.toList_eq, htl, beq_eq_false_iff_ne]; exact hlast
      have hDn : D.length ≤ 1000 := by rw [← HK.out.1]; exact hn
      have q0 : (0 : Int) ≤ (D.length : Int) - 1 := by omega
      have q1 : (D.length : Int) - 1 < (D.length : Int) := by omega
      have q2 : ((D.length : Int) - 1).toNat = D.length - 1 := by omega
      have q3 : IntKind.i64.wrap ((D.length : Int) - 1) = (D.length : Int) - 1 := IntWalk.i64_in _ (by omega)
      have HFW := Lib.hid hfw
      clear hac hfw htb htl hlast htc_ hcell c1 c2 c3 c4 c5 c6 c7 d5
      unfold F33
      go_upto_region 105 with (fail)
      go_quiet (fail)
      go_wp2_with fail
      have hw := (HR.out.1.drewN nq).done
      with_reducible refine hw.mono ?_
      rintro e w1 ⟨rfl, hb1⟩
      clear hw
      go_wp2_with fail
      go_ret
      refine ⟨?_, hb1⟩
      unfold finB
      rw [HFW.out]
      rfl
end Go.Proofs.YtocfcajafkkhdaaDoor
end
/- Bk -/
section
namespace Go.Proofs.YtocfcajafkkhdaaDoor
open Go.RowKit

/-- all blocks stay but bytes and builders -/
def Rest2 (w w' : World) : Prop := ∀ (b : Nat) (o : Obj), w.heap[b]? = some o → (∀ cs fz, o ≠ .cells cs 5 fz) → (∀ cs fz, o ≠ .cells cs 90 fz) → w'.heap[b]? = some o
theorem Rest2.refl (w : World) : Rest2 w w := fun _ _ h _ _ => h
theorem Rest2.trans {a b c : World} (h : Rest2 a b) (k : Rest2 b c) : Rest2 a c := fun x o hx h1 h2 => k x o (h x o hx h1 h2) h1 h2
theorem Rest2.set_ {w : World} {b : Nat} {cs : Array Value} {fz : Nat × Nat} (h : w.heap[b]? = some (.cells cs 90 fz)) (i : Nat) (q : Value) : Rest2 w (w.setCell ⟨b, i, none⟩ q) := by
  intro x o hx _ h2
  by_cases e : x = b
  · subst e
    rw [h] at hx
    exact (h2 _ _ (Option.some.inj hx).symm).elim
  · exact (Below.heap_setCell _ _ _ _ (fun e2 => e (by simpa using e2))).trans hx
theorem Rest2.set {B b : Nat} {p : Value} {bs : List Value} {w : World} (h : Lib.BuilderAt 90 5 B b p bs w) (i : Nat) (q : Value) : Rest2 w (w.setCell ⟨b, i, none⟩ q) := by
  obtain ⟨_, v, hb, _⟩ := h
  exact Rest2.set_ hb i q
theorem Rest2.grown {w w' : World} {B z n : Nat} {v : Value} {ps : List Value} (h : w.ownsRow B 5 z v n ps) (hg : w.grownBy w' v.ownBlock) : Rest2 w w' := by
  intro b o hb h1 _
  refine (hg.block b (lt_of hb) (fun e2 => ?_)).trans hb
  obtain ⟨cur, hc⟩ := row_block h e2.symm
  rw [hb] at hc
  exact h1 _ _ (Option.some.inj hc)
theorem check_k (B b : Nat) (bs : List Value) (w : World) (h : Lib.IsBuilder 90 5 B b bs w) :
    Calls Tryd.prog 57 #[.pointer (some ⟨b, 0, none⟩)] w (DonePost fun w' => Lib.BuilderAt 90 5 B b (.pointer (some ⟨b, 0, none⟩)) bs w' ∧ Below B w w' ∧ Rest2 w w') := by
  rcases h with h | h
  · refine (check_fresh b w h.cell0 h.shape h.frozen0).mono ?_
    rintro e w' ⟨rfl, rfl⟩
    exact ⟨rfl, h.used _, (Below.refl B w).setCell (p := ⟨b, 0, none⟩) h.1 _, Rest2.set h _ _⟩
  · refine (check_used b w h.cell0).mono ?_
    rintro e w' ⟨rfl, rfl⟩
    exact ⟨rfl, h, Below.refl B _, Rest2.refl _⟩
set_option maxHeartbeats 2000000 in
set_option maxRecDepth 100000 in
theorem writeString_k (B b : Nat) (bs : List Value) (s : ByteArray) (w : World) (h : Lib.IsBuilder 90 5 B b bs w) (hlen : bs.length + s.size ≤ 140737488355328) (hBw : B ≤ w.heap.size) :
    Calls Tryd.prog 43 #[.pointer (some ⟨b, 0, none⟩), .string s] w (fun e w' => WrPost (.tuple #[.int .i64 s.size, .nilIface]) B b (bs ++ Lib.strCells s) w e w' ∧ Rest2 w w') := by
  obtain ⟨i0, hi, hz0, hz1, hz2⟩ := info_parts info5
  have hc := check_k B b bs w h
  clear h
  have HI := Lib.hid (And.intro hi (And.intro hz0 (And.intro hz1 hz2)))
  clear hi hz0 hz1 hz2
  go_enter Tryd.func43, Tryd.ntmps43
  go_wp2_with fail
  refine hc.mono ?_
  clear hc
  rintro e w1 ⟨rfl, h1, hb1, hr1⟩
  have HR1 := Lib.hid hr1
  clear hr1
  have H1 := Lib.hid h1
  obtain ⟨hB, v, hbk, hown, hne⟩ := h1
  have c0 : w1.cell? ⟨b, 0, none⟩ = some (.pointer (some ⟨b, 0, none⟩)) := by rw [Lib.cell_of_heap hbk]; rfl
  have c1 : w1.cell? ⟨b, 1, none⟩ = some v := by rw [Lib.cell_of_heap hbk]; rfl
  go_wp2_with (at_builtin; refine Lib.wpList_append_own_string _ rfl _ _ 78 9 rfl B 5 i0 Tryd.underlying78 Tryd.underlying9 HI.out.1 HI.out.2.1 HI.out.2.2.1 HI.out.2.2.2 _ _ _ rfl hown s rfl ?c3 ?c4 ?c5 ?_)
  case c3 => unfold maxLen; omega
  case c4 => omega
  case c5 => have := hb1.size; omega
  intro v' w2 hown' hgrow _
  have hlt : b < w1.heap.size := (Array.getElem?_eq_some_iff.1 hbk).1
  have hb2 : w2.heap[b]? = some (.cells #[.pointer (some ⟨b, 0, none⟩), v] 90 (0, 0)) := by
    rw [hgrow.block b hlt (fun e => hne e.symm)]
    exact hbk
  have d0 : w2.cell? ⟨b, 0, none⟩ = some (.pointer (some ⟨b, 0, none⟩)) := by rw [Lib.cell_of_heap hb2]; rfl
  have d1 : w2.cell? ⟨b, 1, none⟩ = some v := by rw [Lib.cell_of_heap hb2]; rfl
  have f1 : w2.frozen? ⟨b, 1, none⟩ = false := Lib.frozen_of_heap hb2 1
  obtain ⟨ao, n', cap, rfl⟩ : ∃ ao n' cap, v' = .slice ao n' cap := by
    rcases hown'.2 with ⟨hv, _⟩ | ⟨g, cap, cur, hv, _⟩
    · exact ⟨_, _, _, hv⟩
    · exact ⟨_, _, _, hv⟩
  go_wp2
  go_ret2
  refine ⟨⟨rfl, ?_, ?_⟩, HR1.out.trans ((Rest2.grown hown hgrow).trans (Rest2.set_ hb2 _ _))⟩
  · exact Lib.BuilderAt.put (T := 90) (e := 5) hB hb2 (bs' := bs ++ Lib.strCells s) (by rw [List.length_append, show (Lib.strCells s).length = s.size from by simp [Lib.strCells]]; exact hown') (by decide)
  · exact (hb1.grown hgrow (by have := hb1.size; omega) (fun k hk => (hown.lt k hk).1)).setCell (p := ⟨b, 1, none⟩) hB _
theorem TrRel.below {w wr w2 : World} {l : List UInt8} (h : TrRel w l wr) (hb : Below wr.heap.size wr w2) : TrRel w l w2 := by
  have mv : ∀ p, Lib.BuilderAt 90 5 w.heap.size w.heap.size p (Lib.byteCells l) wr → Lib.BuilderAt 90 5 w.heap.size w.heap.size p (Lib.byteCells l) w2 := by
    rintro p ⟨h1, v, h2, h3, h4⟩
    exact ⟨h1, v, (hb.block _ (lt_of h2)).trans h2, row_move h3 (fun g hg => ⟨(h3.lt g hg).1, hb.block g (h3.lt g hg).2⟩), h4⟩
  exact ⟨h.1.imp (mv _) (mv _), h.2.1.trans (hb.mono h.2.1.size), Nat.lt_of_lt_of_le h.2.2 hb.size⟩
theorem TrRel.strk {w wr : World} {l : List UInt8} (h : TrRel w l wr) (s : ByteArray) (h1 : l.length ≤ 100000000) (h2 : s.size ≤ 100000) :
    Calls Tryd.prog 43 #[.pointer (some ⟨w.heap.size, 0, none⟩), .string s] wr (fun e w' => e = .returned (.tuple #[.int .i64 s.size, .nilIface]) ∧ TrRel w (l ++ s.data.toList) w' ∧ Rest2 wr w') :=
  (writeString_k _ _ _ s wr h.1 (by rw [Lib.byteCells_length]; omega) (Nat.le_of_lt h.2.2)).mono fun _ _ ⟨⟨r1, r2, r3⟩, r4⟩ => ⟨r1, by
    refine ⟨.inr ?_, h.2.1.trans r3, Nat.lt_of_lt_of_le h.2.2 r3.size⟩
    rw [byteCells_app]
    exact r2, r4⟩
end Go.Proofs.YtocfcajafkkhdaaDoor
end
