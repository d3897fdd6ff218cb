/-
  impl.Frames: what is read of pieces of bytes.
-/
import Derived.Test.YtkkedekgniffoaaDoorRf
import Derived.Test.YtkkedekgniffoaaDoorJb
import Derived.Deep.AppendLies
namespace Go.Proofs.YtkkedekgniffoaaDoor
open Go.RowKit
open K (Lies strs)

theorem conv_ch {w : World} {ch : Ch} {v : Value} (hv : ChV ch v) (hb : ChB w ch) : ∃ A m c, v = .slice A m c ∧ (convert 50 9 (.slice A m c)).run Tryd.prog w = .ok (.string ⟨ch.d.toArray⟩) w := by
  obtain ⟨q, c, rfl, hq⟩ := hv
  obtain ⟨B, hB, hc⟩ := hb
  refine ⟨_, _, _, rfl, ?_⟩
  rcases Nat.eq_zero_or_pos ch.d.length with h0 | h0
  · have hd := List.length_eq_zero_iff.1 h0
    rw [h0, hd]
    exact run_convert_bytes_arg w 50 5 Tryd.underlying50 Tryd.underlying5 ch.g q 0 c [] rfl (fun i hi => absurd hi (by simp)) 9 Tryd.underlying9
  · rw [hq h0]
    have hlen : ch.o + ch.d.length ≤ B.length := by
      have h1 := hc (ch.d.length - 1) (ch.d[ch.d.length - 1]'(by omega)) (List.getElem?_eq_getElem _)
      have := (List.getElem?_eq_some_iff.1 h1).1
      omega
    rw [hB.convAt hlen]
    have e : (B.drop ch.o).take ch.d.length = ch.d := by
      apply List.ext_getElem?
      intro j
      rw [List.getElem?_take]
      by_cases hj : j < ch.d.length
      · rw [if_pos hj, List.getElem?_drop, hc j _ (List.getElem?_eq_getElem hj), List.getElem?_eq_getElem hj]
      · rw [if_neg hj, List.getElem?_eq_none (by omega)]
    rw [e]
theorem ChB.below {w w' : World} {ch : Ch} (h : ChB w ch) (hb : Below w.heap.size w w') : ChB w' ch := by
  obtain ⟨B, h1, h2⟩ := h
  exact ⟨B, h1.at (hb.block _ h1.lt), h2⟩
theorem reach_len {s : Fr.St} {l d : List UInt8} {s1 : Fr.St} {l1 : List UInt8} (h : Fr.Reach s l d s1 l1) : d.length + l1.length ≤ l.length := by
  induction h with
  | refl => simp
  | @cons s l d s1 l1 d1 s2 l2 e _ ih =>
    have h1 : d.length + l1.length ≤ l.length := by
      unfold Fr.step at e
      split at e
      · cases hh : Fr.head s.ff l with
        | none => rw [hh] at e; cases e
        | some x =>
          have hx := (head_facts hh).1
          rw [hh] at e
          simp only [Option.bind_some, Fr.afterHead] at e
          split at e
          · split at e
            · cases e
            · split at e
              · cases e
              · cases e; simp; omega
          · cases e; simp; omega
      · split at e
        · cases e; simp
        · cases l with
          | nil => cases e
          | cons c l => cases e; simp; omega
    simp; omega

/-- what Frames gives -/
def FramesPost (ss : List ByteArray) (w : World) (e : Ending) (w' : World) : Prop :=
  ∃ (A : Option Addr) (n cap : Nat) (out : List ByteArray) (cl : Nat) (ok : Bool) (s : Fr.St) (l : List UInt8), e = .returned (.tuple #[.slice A n cap, .int .i64 cl, .bool ok]) ∧ Below w.heap.size w w' ∧ Lies w' A n (strs out) ∧ out.length = n ∧ n ≤ 900000 ∧
    Fr.Reach Fr.start (ss.flatMap fun t => t.data.toList) (out.flatMap fun t => t.data.toList) s l ∧ Fr.step s l = none ∧ ((Fr.fin s l = .fine ∧ cl = 0 ∧ ok = true) ∨ (Fr.fin s l = .err ∧ cl = 0 ∧ ok = false) ∨ (Fr.fin s l = .closed cl ∧ ok = ((cl : Int) != 0)))
def dS (D : List Ch) : List ByteArray := D.map fun ch => ⟨ch.d.toArray⟩
theorem dS_flat (D : List Ch) : (dS D).flatMap (fun t => t.data.toList) = joinD D := by
  unfold dS joinD
  induction D with
  | nil => rfl
  | cons ch D ih => simp [ih]
theorem info9 : (Tryd.prog.info? 9).map (fun i => (i.zero, i.size, i.bytes)) = some (some (.string ByteArray.empty), 1, 16) := by kernel_rfl
theorem own_blk' {w : World} {B1 e sz n : Nat} {v : Value} {xs : List Value} (h : w.ownsRow B1 e sz v n xs) {g : Nat} (hg : v.ownBlock = some g) : B1 ≤ g := (own_blk h hg).1
theorem strs_map (ss : List ByteArray) (j : Nat) (h : j < ss.length) : (ss.map Value.string).getD j undef = strs ss j := by
  simp [strs, List.getD, h]
def FrmRel (w2 : World) (D : List Ch) (k : Nat) (v : Value) (wr : World) : Prop := wr.ownsRow w2.heap.size 9 1 v k (((dS D).take k).map Value.string) ∧ Below w2.heap.size w2 wr

theorem flat_of {ss : List ByteArray} {F : List Pc} (hB : F.map Pc.B = ss.map (fun s => s.data.toList)) (ho : ∀ p ∈ F, p.o = 0) : flat F = ss.flatMap fun t => t.data.toList := by
  have e : flat F = (F.map Pc.B).flatten := by
    unfold flat
    induction F generalizing ss with
    | nil => rfl
    | cons p F ih =>
      cases ss with
      | nil => simp at hB
      | cons s ss =>
        simp only [List.map_cons, List.cons.injEq] at hB
        simp only [List.flatMap_cons, List.map_cons, List.flatten_cons]
        rw [ih hB.2 (fun q hq => ho q (List.mem_cons_of_mem _ hq))]
        unfold Pc.left
        rw [ho p List.mem_cons_self, List.drop_zero]
  rw [e, hB, List.flatMap_def]
theorem size_le_flat {ss : List ByteArray} {s : ByteArray} (h : s ∈ ss) : s.size ≤ (ss.flatMap fun t => t.data.toList).length := by
  induction ss with
  | nil => cases h
  | cons t ss ih =>
    simp only [List.flatMap_cons, List.length_append, K.bsize]
    rcases List.mem_cons.1 h with rfl | h
    · omega
    · have := ih h; omega
theorem frm_post {ss : List ByteArray} {w w2 wr : World} {D : List Ch} {v : Value} {cl : Nat} {s : Fr.St} {l : List UInt8} (h : FrmRel w2 D D.length v wr) (hb : Below w.heap.size w w2) (hD : D.length ≤ 900000) (hr : Fr.Reach Fr.start (ss.flatMap fun t => t.data.toList) (joinD D) s l) (hs : Fr.step s l = none) (ok : Bool)
    (hend : (Fr.fin s l = .fine ∧ cl = 0 ∧ ok = true) ∨ (Fr.fin s l = .err ∧ cl = 0 ∧ ok = false) ∨ (Fr.fin s l = .closed cl ∧ ok = ((cl : Int) != 0))) : FramesPost ss w (.returned (.tuple #[v, .int .i64 cl, .bool ok])) wr := by
  obtain ⟨hown, hb2⟩ := h
  have hlen : (dS D).length = D.length := by simp [dS]
  rw [List.take_of_length_le (by omega)] at hown
  obtain ⟨A, cap, rfl, _, hl, hlies, _⟩ := K.lies_of_own hown
  refine ⟨A, D.length, cap, dS D, cl, ok, s, l, rfl, hb.trans (hb2.mono hb.size), ?_, hlen, hD, by rw [dS_flat]; exact hr, hs, hend⟩
  intro hn
  obtain ⟨ab, ao, h1, h2, h3⟩ := hlies hn
  exact ⟨ab, ao, h1, h2, fun j hj => (h3 j hj).trans (congrArg some (strs_map _ _ (by omega)))⟩

set_option maxHeartbeats 4000000 in
set_option maxRecDepth 100000 in
theorem frames_any (A : Option Addr) (n cap : Nat) (ss : List ByteArray) (w : World) (hA : Lies w A n (strs ss)) (hn : ss.length = n) (hn0 : 0 < n) (hc : n ≤ 1000) (hj : (ss.flatMap fun t => t.data.toList).length ≤ 800000) (hT : Tabs w) (hE : ∃ te ve, w.cell? ⟨1, 0, none⟩ = some (.iface te ve)) :
    Calls Tryd.prog 10 #[.slice A n cap] w (FramesPost ss w) := by
  obtain ⟨i0, hi0, hz0, hz1, hz2⟩ := info_parts info9
  have HI := Lib.hid (And.intro hi0 (And.intro hz0 (And.intro hz1 hz2)))
  clear hi0 hz0 hz1 hz2
  have h19 := bytesOf_any A n cap ss w hA hn hc (fun s hs => by have := size_le_flat hs; omega)
  have h18 := fun w1 L np cp F h1 h2 h3 h4 h5 h6 => readFrames_any w w1 L np cp F ((flat F).length + 1) h1 h2 h3 h4 h5 (Nat.le_refl _) h6 hT hE
  have HN := Lib.hid (And.intro hn hj)
  clear hA hn hj hT hE
  go_enter Tryd.func10, Tryd.ntmps10
  go_wp2_with fail
  refine h19.mono ?_
  rintro e w1 ⟨v, F, rfl, hB⟩
  rw [HN.out.1] at hB
  have hown := hB.own
  obtain ⟨L, cp, rfl, _, _⟩ := hown.form hn0
  have hfl : flat F = ss.flatMap fun t => t.data.toList := flat_of (by have h := hB.fb; rw [List.take_of_length_le (by rw [HN.out.1]; exact Nat.le_refl _)] at h; exact h) (fun p hp => (hB.ok p hp).1)
  have hR := h18 w1 L n cp F hown hc hB.bl (fun p hp => hB.ok p hp) hB.so (by rw [hfl]; have := HN.out.2; omega)
  rw [hfl] at hR
  clear hown hB hfl h18 h19
  go_wp2_with fail
  with_reducible refine hR.mono ?_
  rintro e w2 ⟨B1, ov, kv, ev, cl, D, outs, s, l, rfl, hbl, hown, hov, hcb, hD, hr1, hr2, hend⟩
  obtain ⟨A2, cap2, rfl, hle, hol, hlies, -⟩ := K.lies_of_own hown
  have H := Lib.hid (And.intro hbl (And.intro (And.intro hlies hol) (And.intro hov (And.intro hcb (And.intro hr1 (And.intro hr2 hend))))))
  clear hbl hlies hol hov hcb hr1 hr2 hend hown hR hle
  obtain ⟨N, hN⟩ : ∃ N, D.length = N := ⟨_, rfl⟩
  have HNN := Lib.hid hN
  rw [hN] at hD ⊢
  clear hN
  go_wp2_with fail
  go_loopw [2, 9] (fun v i wr => ∃ k : Nat, k ≤ N ∧ i = .int .i64 k ∧ Hid (FrmRel w2 D k v wr)) (fun _ i _ => N - (intOf i).toNat)
  case atStart => exact ⟨0, by omega, rfl, Lib.hid ⟨World.ownsRow_nil _ _ _ _, Below.refl _ _⟩⟩
  case round =>
    obtain ⟨k, hk, rfl, HR⟩ := hrel
    by_cases hlt : k < N
    · obtain ⟨ab, ao, rfl, hab, hcs⟩ := H.out.2.1.1 (by rw [HNN.out]; omega)
      have hkD : k < D.length := by rw [HNN.out]; exact hlt
      obtain ⟨u, hu, hch⟩ := (OutV.at H.out.2.2.1).2 k D[k] (List.getElem?_eq_getElem hkD)
      have c0 := (HR.out.2.cell (p := ⟨ab, ao + k, none⟩) hab).trans (hcs k hkD)
      rw [show ((fun j => outs.getD j undef) k) = u from by simp only [List.getD, hu]; rfl] at c0
      have hcb := (H.out.2.2.2.1 D[k] (List.getElem_mem _)).below HR.out.2
      obtain ⟨A3, m3, c3, rfl, hcv⟩ := conv_ch hch hcb
      have hst : (dS D).take (k + 1) = (dS D).take k ++ [⟨D[k].d.toArray⟩] := by
        rw [List.take_succ_eq_append_getElem (by simp [dS]; exact hkD)]
        simp [dS]
      have HST := Lib.hid hst
      have hw := HR.out.2.size
      clear hcs hu hch hcb hst
      generalize (⟨D[k].d.toArray⟩ : ByteArray) = t at hcv HST
      go_wp2_with (at_builtin; refine Hid.out ?_)
      refine Lib.hid ?_
      refine wpList_append_lies _ rfl _ _ _ rfl w2.heap.size 9 i0 _ 1 16 Tryd.underlying30 HI.out.1 HI.out.2.1 HI.out.2.2.1 HI.out.2.2.2 rfl (by omega) u2 k _ rfl (HR.out.1.alloc _) ⟨wr.heap.size, 0, none⟩ 1 1 [.string t] rfl rfl (World.news_of_block (cs := #[.string t]) (t := 9) (fr := (0, 0)) (K.heap_alloc_at _ _)) (by simp [Value.oneCell']) (by omega) (by unfold maxLen; omega) (by omega) (by simp; omega) (wr.heap.size + 1) (by simp) ?_
      intro g3 cp3 w3 hown3 hgrow3 hat3 hlt3
      have hb3 : Below w2.heap.size w2 w3 := (HR.out.2.alloc hw _).grown hgrow3 (by simp; omega) (fun q hq => (own_blk' HR.out.1 hq))
      have HB := Lib.hid (And.intro hown3 hb3)
      clear hown3 hgrow3 hat3 hcv hb3
      go_wp2_with fail
      go_roundw
      case rel => exact ⟨k + 1, by omega, by go_num, Lib.hid ⟨by rw [HST.out, List.map_append]; exact HB.out.1, HB.out.2⟩⟩
      case measure => simp [intOf]; omega
    · obtain rfl : k = N := by omega
      have hR2 : FrmRel w2 D D.length u2 wr := by rw [HNN.out]; exact HR.out
      rcases H.out.2.2.2.2.2.2 with ⟨rfl, hcl, hfin⟩ | ⟨te, ve, rfl, hfin⟩
      · have HF := Lib.hid (And.intro hR2 (And.intro hcl hfin))
        clear hR2 hcl hfin
        go_wp2_with fail
        go_ret3
        exact frm_post HF.out.1 H.out.1 (by rw [HNN.out]; exact hD) H.out.2.2.2.2.1 H.out.2.2.2.2.2.1 true (Or.inl ⟨HF.out.2.2, HF.out.2.1, rfl⟩)
      · have HF := Lib.hid (And.intro hR2 hfin)
        clear hR2 hfin
        go_wp2_with fail
        go_ret3
        refine frm_post HF.out.1 H.out.1 (by rw [HNN.out]; exact hD) H.out.2.2.2.2.1 H.out.2.2.2.2.2.1 ((cl : Int) != 0) ?_
        rcases HF.out.2 with ⟨h1, h2⟩ | h1
        · exact Or.inr (Or.inl ⟨h1, h2, by rw [h2]; rfl⟩)
        · exact Or.inr (Or.inr ⟨h1, rfl⟩)
end Go.Proofs.YtkkedekgniffoaaDoor
