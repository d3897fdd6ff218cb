/-
  wsGet: so many bytes, of the buffer or of what is left of the connection.
-/
import Derived.Test.YtkkedekgniffoaaDoorPr
import Derived.Laws.OwnMore
namespace Go.Proofs.YtkkedekgniffoaaDoor
open Go.RowKit

theorem info5 : (Tryd.prog.info? 5).map (fun i => (i.zero, i.size, i.bytes)) = some (some (.int .u8 0), 1, 1) := by kernel_rfl

theorem frow_made {w : World} {base g n : Nat} (h : w.ownsRow base 5 1 (.slice (some ⟨g, 0, none⟩) n n) n (madeCells (Value.int .u8 0).cells (n * 1)).toList) : FRow w g (List.replicate n 0) := by
  obtain ⟨_, h2⟩ := h
  rcases h2 with ⟨h3, _⟩ | ⟨g', cap, cur, h3, _, hg, _, _, hs, ht⟩
  · cases h3
  · cases h3
    unfold FRow
    rw [hg]
    have e : cur.toList = List.replicate n (Value.int .u8 0) := by
      rw [← toList_madeCells_one, ← List.take_of_length_le (l := cur.toList) (i := n * 1) (by simp [hs])]
      rw [ht]
      simp [Value.cells]
    have e2 : cur = (List.replicate n (Value.int .u8 0)).toArray := by rw [← e]
    rw [e2]
    simp [bv]
set_option maxRecDepth 100000 in
theorem nilAhead_read (P : Nat) (w : World) : (nilAhead 220 67 (.pointer (some ⟨P, 0, none⟩)) "Read").run Tryd.prog w = .ok (some false) w := by kernel_rfl
set_option maxRecDepth 100000 in
theorem method_read (P : Nat) (w : World) : (method 220 67 (.pointer (some ⟨P, 0, none⟩)) "Read").run Tryd.prog w = .ok (54, .pointer (some ⟨P, 0, none⟩)) w := by kernel_rfl

theorem But.wide {P L gb : Nat} {a b : World} (h : But (fun k => k = P ∨ k = L) a b) : But (fun k => k = P ∨ k = L ∨ k = gb) a b := h.mono fun _ _ h => h.elim Or.inl (fun h => Or.inr (Or.inl h))

/-- what Read gives, its two ways as one -/
def ReadTo (P L np cp gb ob n : Nat) (Bb : List UInt8) (F : List Pc) (w : World) (e : Ending) (w' : World) : Prop :=
  ∃ (k : Nat) (ev : Value), e = .returned (.tuple #[.int .i64 k, ev]) ∧ Hid ((flat F = [] ∧ (∃ te ve, ev = .iface te ve) ∧ But (fun k => k = P ∨ k = L ∨ k = gb) w w') ∨
  (ev = .nilIface ∧ ∃ (a' : Nat) (F' : List Pc) (i : Nat), 0 < k ∧ k ≤ n ∧ k ≤ (flat F).length ∧ Cn w' P L np cp a' F' ∧ flat F' = (flat F).drop k ∧ FRow w' gb (over Bb ob ((flat F).take k)) ∧
    But (fun k => k = P ∨ k = L ∨ k = gb) w w' ∧ F'.map Pc.g = (F.map Pc.g).drop i))
theorem ReadPost.to {P L np cp gb ob n : Nat} {Bb : List UInt8} {F : List Pc} {w : World} {e : Ending} {w' : World} (h : ReadPost P L np cp gb ob n Bb F w e w') : ReadTo P L np cp gb ob n Bb F w e w' := by
  rcases h with ⟨h1, te, ve, h2, h3⟩ | ⟨k, a', F', i, h1, h2, h3, h4, h5⟩
  · exact ⟨0, _, h2, Lib.hid (Or.inl ⟨h1, ⟨te, ve, rfl⟩, h3⟩)⟩
  · exact ⟨k, _, h4, Lib.hid (Or.inr ⟨rfl, a', F', i, h1, h2, h3, h5⟩)⟩
theorem Cn.heap {w w' : World} {P L np cp a : Nat} {F : List Pc} (h : Cn w P L np cp a F) (e : w'.heap = w.heap) : Cn w' P L np cp a F :=
  ⟨h.p.at (by rw [e]), h.l.at (by rw [e]), h.n, fun x hx => ⟨(h.f x hx).1.at (by rw [e]), (h.f x hx).2⟩, h.c⟩
theorem Cn.but {S : Nat → Prop} {w w' : World} {P L np cp a : Nat} {F : List Pc} (h : Cn w P L np cp a F) (hb : But S w w') (hP : ¬ S P) (hL : ¬ S L) (hF : ∀ x ∈ F, ¬ S x.g) : Cn w' P L np cp a F :=
  ⟨h.p.at (hb.block P (by have := h.p; exact (Array.getElem?_eq_some_iff.1 this).1) hP), h.l.at (hb.block L (by obtain ⟨cs, h1, _⟩ := h.l; exact (Array.getElem?_eq_some_iff.1 h1).1) hL), h.n,
   fun x hx => ⟨(h.f x hx).1.but hb (hF x hx), (h.f x hx).2⟩, h.c⟩
theorem Cn.ltP {w : World} {P L np cp a : Nat} {F : List Pc} (h : Cn w P L np cp a F) : P < w.heap.size := (Array.getElem?_eq_some_iff.1 h.p).1
theorem Cn.ltL {w : World} {P L np cp a : Nat} {F : List Pc} (h : Cn w P L np cp a F) : L < w.heap.size := by obtain ⟨cs, h1, _⟩ := h.l; exact (Array.getElem?_eq_some_iff.1 h1).1

/-- the bytes that a buffer and the connection still hold -/
def rest (B : List UInt8) (o : Nat) (F : List Pc) : List UInt8 := B.drop o ++ flat F

def GetPost (P L np cp g o m pos need : Nat) (B : List UInt8) (F : List Pc) (w : World) (e : Ending) (w' : World) : Prop :=
  ((rest B (o + pos) F).length < need ∧ ∃ te ve, e = .returned (.tuple #[.slice none 0 0, .int .u64 0, .iface te ve]) ∧ But (fun k => k = P ∨ k = L) w w') ∨
  (need ≤ (rest B (o + pos) F).length ∧ ∃ (g' o' c' pos' a' i : Nat) (F' : List Pc) (B' : List UInt8), e = .returned (.tuple #[.slice (some ⟨g', o', none⟩) need c', .int .u64 pos', .nilIface]) ∧ pos ≤ pos' ∧ pos' ≤ m ∧
    rest B (o + pos') F' = (rest B (o + pos) F).drop need ∧ ByteRow w' g' B' ∧ o' + need ≤ B'.length ∧ (B'.drop o').take need = (rest B (o + pos) F).take need ∧ need ≤ c' ∧
    Cn w' P L np cp a' F' ∧ F'.map Pc.g = (F.map Pc.g).drop i ∧ But (fun k => k = P ∨ k = L) w w' ∧ ((g' = g ∧ o' = o + pos ∧ B' = B ∧ pos' = pos + need) ∨ w.heap.size ≤ g'))

set_option maxHeartbeats 4000000 in
set_option maxRecDepth 100000 in
theorem get_any (P L np cp a g o m c pos need : Nat) (B : List UInt8) (F : List Pc) (w : World) (hC : Cn w P L np cp a F) (hB : ByteRow w g B) (hom : o + m = B.length) (hm : m ≤ 1000000) (hmc : m ≤ c) (hpos : pos ≤ m) (hm0 : 0 < m)
    (hn0 : 0 < need) (hn : need ≤ 1000000) (hnp : np ≤ 1000000) (hcp : np ≤ cp) {te : TypeId} {ve : Value} (hE : w.cell? ⟨1, 0, none⟩ = some (.iface te ve)) (h1P : P ≠ 1) (h1L : L ≠ 1) :
    Calls Tryd.prog 24 #[.iface 67 (.pointer (some ⟨P, 0, none⟩)), .slice (some ⟨g, o, none⟩) m c, .int .u64 pos, .int .u64 need] w (GetPost P L np cp g o m pos need B F w) := by
  have HC := Lib.hid hC
  have HB := Lib.hid hB
  have HOM := Lib.hid hom
  clear hC hB
  by_cases hav : need ≤ m - pos
  · have b1 : (need : Int) ≤ (m : Int) - (pos : Int) := by omega
    have b2 : ¬ (c = pos) := by omega
    have b3 : (pos : Int) + (need : Int) ≤ (c : Int) := by omega
    have b4 : (0 : Int) ≤ (pos : Int) := by omega
    have b5 : (pos : Int) ≤ (pos : Int) + (need : Int) := by omega
    go_enter Tryd.func24, Tryd.ntmps24
    go_wp2_with fail
    go_ret3
    refine Or.inr ⟨by unfold rest; simp; omega, g, o + pos, c - pos, pos + need, a, 0, F, B, ?_, by omega, by omega, ?_, HB.out, by omega, ?_, by omega, HC.out, rfl, But.refl _ _, Or.inl ⟨rfl, rfl, rfl, rfl⟩⟩
    · show Ending.returned (.tuple #[.slice (some ⟨g, o + pos, none⟩) (pos + need - pos) (c - pos), .int .u64 ((pos : Int) + (need : Int)), .nilIface]) = _
      rw [show pos + need - pos = need from by omega]
      rfl
    · unfold rest
      rw [List.drop_append_of_le_length (by simp; omega), List.drop_drop, Nat.add_assoc]
    · unfold rest
      rw [List.take_append_of_le_length (by simp; omega)]
  · obtain ⟨i0, hi0, hz0, hz1, hz2⟩ := info_parts info5
    have HI0 := Lib.hid hi0
    have HI1 := Lib.hid hz0
    have HI2 := Lib.hid hz1
    have HI3 := Lib.hid hz2
    clear hi0 hz0 hz1 hz2
    have b1 : ¬ ((need : Int) ≤ (m : Int) - (pos : Int)) := by omega
    have b1' : (m : Int) - (pos : Int) < (need : Int) := by omega
    have b4 : (0 : Int) ≤ (pos : Int) := by omega
    have b5 : (pos : Int) ≤ (m : Int) := by omega
    have b6 : (m : Int) ≤ (c : Int) := by omega
    obtain ⟨rs, hrs⟩ : ∃ rs, rest B (o + pos) F = rs := ⟨_, rfl⟩
    obtain ⟨av, hav2⟩ : ∃ av, m - pos = av := ⟨_, rfl⟩
    have HRS := Lib.hid hrs
    have HAV := Lib.hid hav2
    have HNE := Lib.hid (show ∀ (F' : List Pc) (i : Nat), F'.map Pc.g = (F.map Pc.g).drop i → ∀ x ∈ F', x.g < w.heap.size from by
      intro F' i h x hx
      have h1 : x.g ∈ (F.map Pc.g).drop i := by rw [← h]; exact List.mem_map_of_mem hx
      obtain ⟨y, hy, hyx⟩ := List.mem_map.1 (List.mem_of_mem_drop h1)
      rw [← hyx]
      exact (HC.out.f y hy).1.lt)
    have hPs := HC.out.ltP
    have hLs := HC.out.ltL
    have hgs := HB.out.lt
    have h1s := World.block_lt_of_cell? w _ hE
    have hmm : (B.drop (o + pos)).length = av := by simp; omega
    have hrl : rs = B.drop (o + pos) ++ flat F := HRS.out.symm
    obtain ⟨gb, hgb⟩ : ∃ gb, w.heap.size = gb := ⟨_, rfl⟩
    have HGB := Lib.hid hgb
    obtain ⟨q, hq⟩ : ∃ q, (c = pos ∧ o = q) ∨ (¬ (c = pos) ∧ o + pos = q) := by
      by_cases h : c = pos
      · exact ⟨o, Or.inl ⟨h, rfl⟩⟩
      · exact ⟨o + pos, Or.inr ⟨h, rfl⟩⟩
    have HCP : Hid (∀ y : World, y.heap[g]? = w.heap[g]? → ∀ j u, (B.drop (o + pos))[j]? = some u → y.cell? ((⟨g, q, none⟩ : Addr).add j) = some (bv u)) := by
      refine Lib.hid fun y hy j u hj => ?_
      rw [K.addr_add _ rfl]
      rcases hq with ⟨h1, h2⟩ | ⟨h1, rfl⟩
      · have := (List.getElem?_eq_some_iff.1 hj).1; omega
      · have := (HB.out.at hy).cell (j := o + pos + j) (c := u) (by rw [← hj]; simp)
        exact this
    have hwav : IntKind.u64.wrap (av : Int) = (av : Int) := by rw [IntKind.wrap_u64]; omega
    have HMM := Lib.hid (And.intro hmm hrl)
    clear hmm hrl hav2 hrs hgb
    rcases hq with ⟨hcq, rfl⟩ | ⟨hcq, rfl⟩
    all_goals
      go_enter Tryd.func24, Tryd.ntmps24
      go_wp2_with (first
        | (at_make; refine wpList_make_full _ rfl _ _ 50 rfl w.heap.size 5 i0 (.int .u8 0) 1 Tryd.underlying50 HI0.out HI1.out HI2.out .u64 .u64 _ _ need rfl rfl rfl rfl (by rw [HI3.out]; omega) (by unfold maxLen; omega) (Nat.le_refl _) ?_; intro w1 hown1 hgrow1; rw [HGB.out] at hown1 ⊢; have HF1 := Lib.hid (frow_made hown1); have HG1 := Lib.hid hgrow1; clear hown1 hgrow1)
        | (refine wpList_copy_b rfl (.tmp 35) (.tmp 38) rfl gb 0 need need ⟨g, _, none⟩ _ _ rfl rfl _ (B.drop (o + pos)) HF1.out (HCP.out w1 (HG1.out.block g hgs (by simp))) (by rw [HMM.out.1]; have h := HAV.out; show av = min _ _; omega) (by rw [HMM.out.1]; have h := HAV.out; simp; omega) ?_; intro w2 hf2 hb2; rw [HMM.out.1]; have HF2 := Lib.hid (And.intro hf2 hb2); clear hf2 hb2))
      clear hwav
      go_loopg [8, 9, 10, 13, 14, 15] (need - av + 1) (fun gk x8 x9 x10 x13 _ _ x => x8 = .slice none 0 0 ∧ x9 = .int .u64 0 ∧ x10 = .nilIface ∧ ∃ (s a' i : Nat) (F' : List Pc) (l : List UInt8), gk = need - s + 1 ∧ s ≤ need ∧ s ≤ rs.length ∧ x13 = .int .u64 (s : Int) ∧
        Hid (FRow x gb l ∧ l.length = need ∧ l.take s = rs.take s ∧ flat F' = rs.drop s ∧ Cn x P L np cp a' F' ∧ F'.map Pc.g = (F.map Pc.g).drop i ∧ But (fun k => k = P ∨ k = L) w x))
      case atStart =>
        refine ⟨rfl, rfl, rfl, av, a, 0, F, _, rfl, by have h := HAV.out; omega, by rw [HMM.out.2]; simp [HMM.out.1], rfl, Lib.hid ⟨HF2.out.1, ?_, ?_, ?_, ?_, rfl, ?_⟩⟩
        · rw [over_length _ _ _ (by rw [HMM.out.1]; have h := HAV.out; simp; omega)]; simp
        · have h := HMM.out.1
          rw [HMM.out.2]
          simp only [over, List.take_zero, List.nil_append]
          rw [List.take_append_of_le_length (by omega), List.take_append_of_le_length (by omega)]
        · have h := HMM.out.1
          rw [HMM.out.2, ← h, List.drop_left]
        · have hb1 : But (fun k => k = gb) w w1 := ⟨HG1.out.os, HG1.out.tape, HG1.out.output, HG1.out.size, fun k hk _ => HG1.out.block k hk (by simp)⟩
          have hgb := HGB.out
          exact HC.out.but (hb1.trans HF2.out.2) (by omega) (by omega) (fun x hx => by have := (HC.out.f x hx).1.lt; omega)
        · have hb1 : But (fun k => k = gb) w w1 := ⟨HG1.out.os, HG1.out.tape, HG1.out.output, HG1.out.size, fun k hk _ => HG1.out.block k hk (by simp)⟩
          have hgb := HGB.out
          exact (hb1.trans HF2.out.2).mono (fun k hk h => by omega)
      case round =>
        obtain ⟨rfl, rfl, rfl, s, a', i, F', l, rfl, hs, hsl, rfl, HJ⟩ := hrel
        by_cases hsn : s = need
        · have e1 : (s : Int) = (need : Int) := by omega
          go_wp2_with fail
          go_ret3
          subst hsn
          refine Or.inr ⟨by rw [HRS.out]; exact hsl, gb, 0, s, m, a', i, F', l, ?_, hpos, Nat.le_refl _, ?_, HJ.out.1.row, by rw [HJ.out.2.1]; omega, ?_, Nat.le_refl _, HJ.out.2.2.2.2.1, HJ.out.2.2.2.2.2.1, HJ.out.2.2.2.2.2.2, Or.inr (by rw [HGB.out]; exact Nat.le_refl _)⟩
          · show Ending.returned (.tuple #[.slice (some ⟨gb, 0, none⟩) s s, .int .u64 ((pos : Int) + ((m : Int) - (pos : Int))), .nilIface]) = _
            rw [show (pos : Int) + ((m : Int) - (pos : Int)) = (m : Int) from by omega]
          · unfold rest
            rw [HOM.out, List.drop_length, List.nil_append, HJ.out.2.2.2.1]
            rw [← HRS.out]; rfl
          · rw [HRS.out]; exact HJ.out.2.2.1
        · have e1 : ¬ ((s : Int) = (need : Int)) := by omega
          have e2 : (0 : Int) ≤ (s : Int) := by omega
          have e3 : (s : Int) ≤ (need : Int) := by omega
          have e4 : ¬ (need = s) := by omega
          have HR : Hid (∀ w' : World, w'.heap = wr.heap → Calls Tryd.prog 54 #[.pointer (some ⟨P, 0, none⟩), .slice (some ⟨gb, s, none⟩) (need - s) (need - s)] w' (ReadTo P L np cp gb s (need - s) l F' w')) := by
            refine Lib.hid fun w' hw => ?_
            have h1 : w'.cell? ⟨1, 0, none⟩ = some (.iface te ve) := by
              have h := HJ.out.2.2.2.2.2.2.block 1 h1s (by omega)
              simp only [World.cell?] at hE ⊢
              rw [hw, h]; exact hE
            have hgb := HGB.out
            exact Calls.mono (read_any P L np cp a' gb s (need - s) (need - s) l F' w' (HJ.out.2.2.2.2.1.heap hw) (HJ.out.1.at (by rw [hw])) (by omega) (by rw [HJ.out.2.1]; omega) (fun x hx => by have := HNE.out F' i HJ.out.2.2.2.2.2.1 x hx; omega) hnp hcp h1 h1P) (fun _ _ h => h.to)
          have hna := nilAhead_read P
          have hme := method_read P
          go_wp2_with fail
          go_region_with (go_at_call 54; (with_reducible refine (HR.out _ ?hw).mono ?_); (case hw => rfl); rintro e w3 ⟨k, ev, rfl, hk⟩)
          clear hna hme
          rcases hk.out with ⟨hfl, ⟨te2, ve2, rfl⟩, hb⟩ | ⟨rfl, a2, F2, i2, hk0, hk1, hk2, hC2, hf2, hR2, hb2, hm2⟩
          · have HEND := Lib.hid (And.intro hfl hb)
            clear hfl hb hk
            go_wp2_with fail
            go_ret3
            have hgb := HGB.out
            refine Or.inl ⟨?_, te2, ve2, rfl, ?_⟩
            · rw [HRS.out]
              have h := HJ.out.2.2.2.1
              rw [HEND.out.1] at h
              have h2 := congrArg List.length h
              simp at h2
              omega
            · have hb3 : But (fun k => k = P ∨ k = L ∨ k = gb) wr w3 := ⟨HEND.out.2.os, HEND.out.2.tape, HEND.out.2.output, HEND.out.2.size, HEND.out.2.block⟩
              exact (HJ.out.2.2.2.2.2.2.wide.trans hb3).mono (fun k hk h => by omega)
          · have HEND := Lib.hid (And.intro hC2 (And.intro hf2 (And.intro hR2 (And.intro hb2 hm2))))
            have w1' : IntKind.u64.wrap (k : Int) = (k : Int) := IntWalk.u64_in _ (by omega)
            have w2' : IntKind.u64.wrap ((s : Int) + (k : Int)) = (s : Int) + (k : Int) := IntWalk.u64_in _ (by omega)
            clear hC2 hf2 hR2 hb2 hm2 hk
            go_wp2_with fail
            go_roundg (need - (s + k) + 1)
            case measure => omega
            case rel =>
              have hl := HJ.out.2.1
              have hgb := HGB.out
              have hfl : flat F' = rs.drop s := HJ.out.2.2.2.1
              have htl : (l.take s).length = s := by rw [List.length_take, hl]; omega
              have hxl : ((flat F').take k).length = k := by rw [List.length_take]; omega
              refine ⟨rfl, rfl, rfl, s + k, a2, i + i2, F2, over l s ((flat F').take k), rfl, by omega, by rw [hfl] at hk2; simp at hk2; omega, by go_num, Lib.hid ⟨HEND.out.2.2.1, ?_, ?_, ?_, HEND.out.1, ?_, ?_⟩⟩
              · rw [over_length _ _ _ (by rw [hxl, hl]; omega)]; exact hl
              · unfold over
                rw [← List.append_assoc, List.take_append_of_le_length (by rw [List.length_append, htl, hxl]; exact Nat.le_refl _), List.take_of_length_le (by rw [List.length_append, htl, hxl]; exact Nat.le_refl _), HJ.out.2.2.1, hfl, List.take_add]
              · rw [HEND.out.2.1, hfl, List.drop_drop]
              · rw [HEND.out.2.2.2.2, HJ.out.2.2.2.2.2.1, List.drop_drop]
              · have hb3 : But (fun k => k = P ∨ k = L ∨ k = gb) wr w3 := ⟨HEND.out.2.2.2.1.os, HEND.out.2.2.2.1.tape, HEND.out.2.2.2.1.output, HEND.out.2.2.2.1.size, HEND.out.2.2.2.1.block⟩
                exact (HJ.out.2.2.2.2.2.2.wide.trans hb3).mono (fun k hk h => by omega)
end Go.Proofs.YtkkedekgniffoaaDoor
