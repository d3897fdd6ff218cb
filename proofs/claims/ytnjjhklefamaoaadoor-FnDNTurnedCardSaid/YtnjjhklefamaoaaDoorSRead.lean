/-
  The reference's ParseDN: where it says yes, the reading machine goes over the same text to the same name.
-/
import Derived.Test.YtnjjhklefamaoaaDoorVal
import Derived.Test.YtnjjhklefamaoaaDoorRead

namespace Go.Proofs.YtnjjhklefamaoaaDoor
open Go.RowKit
open Dn (Attr Name)

def MemP (w wp wr : World) (u : Value) (vs : List Value) (dn : Name) (v : Value) (part : List Attr) : Prop :=
  K.Grew w wp ∧ K.Grew wp wr ∧ wp.ownsRow w.heap.size 30 1 u dn.length vs ∧ (∀ j, j < dn.length → RowA wp (vs.getD j undef) (Dn.at' dn j)) ∧ wr.ownsRow wp.heap.size 32 2 v part.length (cellsA part)
theorem MemP.start (w : World) : MemP w w w (.slice none 0 0) [] [] (.slice none 0 0) [] :=
  ⟨K.Grew.refl _, K.Grew.refl _, World.ownsRow_nil _ _ _ _, fun j hj => absurd hj (by simp), World.ownsRow_nil _ _ _ _⟩
theorem MemP.move {w wp wr w1 : World} {u v : Value} {vs : List Value} {dn : Name} {part : List Attr} (h : MemP w wp wr u vs dn v part) (hb : Below wr.heap.size wr w1) : MemP w wp w1 u vs dn v part := by
  obtain ⟨h1, h2, h3, h4, h5⟩ := h
  exact ⟨h1, h2.then hb, h3, h4, row_move2 h5 fun g hg => ⟨(h5.lt g hg).1, hb.block g (h5.lt g hg).2⟩⟩
theorem MemP.push {w wp wr w2 : World} {u v : Value} {vs : List Value} {dn : Name} {part : List Attr} {gg cp : Nat} {a : Attr} (h : MemP w wp wr u vs dn v part)
    (hown : w2.ownsRow wp.heap.size 32 2 (.slice (some ⟨gg, 0, none⟩) (part.length + 1) cp) (part.length + 1) (cellsA part ++ [.string a.1, .string a.2]))
    (hgrow : (wr.alloc (.cells #[.string a.1, .string a.2] 32)).grownBy w2 v.ownBlock) : MemP w wp w2 u vs dn (.slice (some ⟨gg, 0, none⟩) (part.length + 1) cp) (part ++ [a]) := by
  obtain ⟨h1, h2, h3, h4, h5⟩ := h
  refine ⟨h1, Below.grown (Below.alloc h2 (Below.size h2) (.cells #[.string a.1, .string a.2] 32)) hgrow (by have := Below.size h2; simp; omega) (fun g hg => (h5.lt g hg).1), h3, h4, ?_⟩
  rw [cellsA_snoc, List.length_append]
  exact hown
theorem MemP.next {w wp wr w2 : World} {u v : Value} {vs : List Value} {dn : Name} {part : List Attr} {gg cp : Nat} (h : MemP w wp wr u vs dn v part)
    (hown : w2.ownsRow w.heap.size 30 1 (.slice (some ⟨gg, 0, none⟩) (dn.length + 1) cp) (dn.length + 1) (vs ++ [v]))
    (hgrow : (wr.alloc (.cells #[v] 30)).grownBy w2 u.ownBlock) : MemP w w2 w2 (.slice (some ⟨gg, 0, none⟩) (dn.length + 1) cp) (vs ++ [v]) (dn ++ [part]) (.slice none 0 0) [] := by
  obtain ⟨h1, h2, h3, h4, h5⟩ := h
  have hle := Below.size h2
  have hle1 := Below.size h1
  have s32 : Stays (· = 32) wr w2 := by
    refine (stays_below ((Below.refl _ wr).alloc (Nat.le_refl _) _)).trans ((stays_grown (e := 30) hgrow fun g hg => ?_).mono fun t ht => by subst ht; decide)
    obtain ⟨cur, hc⟩ := row_block2 h3 hg
    have hc2 : wr.heap[g]? = some (.cells cur 30 (0, 0)) := (Below.block h2 g (lt_of hc)).trans hc
    exact ⟨cur, (0, 0), (Below.heap_alloc _ _ _ (lt_of hc2)).trans hc2⟩
  have hlen : vs.length = dn.length := by have := h3.1; simpa using this
  refine ⟨Below.grown (Below.alloc (Below.trans h1 (Below.mono h2 hle1)) (by omega) (.cells #[v] 30)) hgrow (by simp; omega) (fun g hg => (h3.lt g hg).1), K.Grew.refl _, ?_, ?_, World.ownsRow_nil _ _ _ _⟩
  · rw [List.length_append]; exact hown
  · intro j hj
    rw [List.length_append] at hj
    simp only [List.length_singleton] at hj
    rcases Nat.lt_or_ge j dn.length with h6 | h6
    · rw [getD_app_lt (by omega), show Dn.at' (dn ++ [part]) j = Dn.at' dn j from by simp [Dn.at', List.getElem?_append_left h6]]
      exact ((h4 j h6).keep (stays_below h2)).keep s32
    · obtain rfl : j = dn.length := by omega
      rw [show (vs ++ [v]).getD dn.length undef = v from by rw [← hlen]; exact getD_app_eq, show Dn.at' (dn ++ [part]) dn.length = part from by simp [Dn.at']]
      exact RowA.keep (row_move2 h5 fun g hg => ⟨Nat.zero_le _, rfl⟩) s32
theorem MemP.own {w wp wr : World} {u v : Value} {vs : List Value} {dn : Name} {part : List Attr} (h : MemP w wp wr u vs dn v part) : wr.ownsRow w.heap.size 30 1 u dn.length vs :=
  row_move2 h.2.2.1 fun g hg => ⟨(h.2.2.1.lt g hg).1, Below.block h.2.1 g (h.2.2.1.lt g hg).2⟩
theorem MemP.grew {w wp wr : World} {u v : Value} {vs : List Value} {dn : Name} {part : List Attr} (h : MemP w wp wr u vs dn v part) : K.Grew w wr := Below.trans h.1 (Below.mono h.2.1 (Below.size h.1))
theorem MemP.read {w wp : World} {u v : Value} {vs : List Value} {l : Name} (h : MemP w wp wp u vs l v []) (hf : ∀ x ∈ l, Fit x) : NamesV wp u l := by
  obtain ⟨h1, h2, h3, h4, h5⟩ := h
  obtain ⟨X, c, rfl, e1, e2, e3, e4⟩ := row_read h3
  refine ⟨X, l.length, c, rfl, e1, e2, rfl, fun h0 => ?_⟩
  obtain ⟨g, rfl, hc⟩ := e4 h0
  exact ⟨g, 0, rfl, World.block_lt_of_cell? _ _ (hc 0 h0), fun j hj => ⟨_, hc j hj, (h4 j hj).read (hf _ (at_mem hj))⟩⟩

theorem word_plain {c : UInt8} (h : wordc c.toNat) : c ≠ 92 ∧ c ≠ 61 ∧ c ≠ 44 ∧ c ≠ 43 ∧ c ≠ 32 := by
  unfold wordc at h
  refine ⟨?_, ?_, ?_, ?_, ?_⟩ <;> (intro e; subst e; revert h; decide)
theorem runs_word (s : ByteArray) (k : Nat) (ty : ByteArray) (rdn : List Attr) (dn : Name) : ∀ (n : Nat), k + n ≤ s.size → (∀ i (h : i < s.size), k ≤ i → i < k + n → wordc s[i].toNat) →
    Dn.Runs s.data.toList k ⟨false, 0, [], ty, rdn, dn⟩ (k + n) ⟨false, 0, (s.extract k (k + n)).data.toList, ty, rdn, dn⟩
  | 0, h, hw => by
    rw [show (s.extract k (k + 0)).data.toList = [] from by simp]
    exact .nil _ _
  | n + 1, h, hw => by
    have ih := runs_word s k ty rdn dn n (by omega) (fun i hi h1 h2 => hw i hi h1 (by omega))
    have hp := word_plain (hw (k + n) (by omega) (by omega) (by omega))
    have e : (s.extract k (k + (n + 1))).data.toList = (s.extract k (k + n)).data.toList ++ [s[k + n]] := by
      have : s.extract k (k + (n + 1)) = s.extract k (k + n) ++ ⟨#[s[k + n]]⟩ := by
        rw [← ext1 s (k + n) (by omega), ← Nat.add_assoc, ByteArray.extract_append_extract]
        congr 1 <;> omega
      rw [this, app1]
    rw [e]
    exact ih.snoc (.plain (k + n) _ _ (get_at (by omega)) rfl hp.1 hp.2.1 hp.2.2.1 hp.2.2.2.1 hp.2.2.2.2)
theorem strOf_whole (v : ByteArray) : Dn.strOf v.data.toList 0 = v := by
  show (⟨(v.data.toList.take (v.data.toList.length - 0)).toArray⟩ : ByteArray) = v
  rw [Nat.sub_zero, List.take_length, Array.toArray_toList]
/-- one attribute: from its first byte to the end of its value -/
theorem runs_attr {s v : ByteArray} {k j e : Nat} {rdn : List Attr} {dn : Name} (hkj : k ≤ j) (hj : j < s.size) (h61 : s[j] = 61) (ht : TypeOk (s.extract k j)) (hv : ValOk s (j + 1) v e)
    (h0 : Dn.Runs s.data.toList 0 Dn.init k ⟨false, 0, [], Dn.none0, rdn, dn⟩) :
    Dn.Runs s.data.toList 0 Dn.init e ⟨false, 0, v.data.toList, s.extract k j, rdn, dn⟩ := by
  have hsz : (s.extract k j).size = j - k := by rw [ByteArray.size_extract]; omega
  have h1 := runs_word s k Dn.none0 rdn dn (j - k) (by omega) (fun i hi h1 h2 => by
    have := ht.2 (i - k) (by omega)
    rw [show (s.extract k j)[i - k] = s[i] from by
      rw [ByteArray.getElem_extract]
      congr 1; omega] at this
    exact this)
  rw [show k + (j - k) = j from by omega] at h1
  have g := get_at hj
  rw [h61] at g
  have h2 := h1.snoc (.eq j _ g rfl (fun e35 => by
    rcases Nat.lt_or_ge (j + 1) s.size with hl | hl
    · rw [get_at hl] at e35
      exact hv.2.2.2.2.1 hl (Option.some.inj e35)
    · rw [List.getElem?_eq_none (by rw [K.bsize]; omega)] at e35
      cases e35))
  rw [strOf_whole] at h2
  exact (h0.trans h2).trans (hv.2.2.2.2.2 _ _ _)
attribute [local go_sem ↓] Go.wp_at_zero Go.wp_at_succ

def SReadPost (s : ByteArray) (w : World) (e : Ending) (w' : World) : Prop := ∃ (v : Value) (ok : Bool), e = .returned (.tuple #[v, .bool ok]) ∧ Below w.heap.size w w' ∧
  (ok = true → ∃ τ, Dn.Runs s.data.toList 0 Dn.init s.size τ ∧ (τ.buf = [] ∨ 0 < τ.ty.size) ∧ NamesV w' v (Dn.final τ))
theorem SReadPost.no {s : ByteArray} {w w' : World} (hb : Below w.heap.size w w') (v : Value) : SReadPost s w (.returned (.tuple #[v, .bool false])) w' := ⟨v, false, rfl, hb, fun h => by cases h⟩
set_option maxHeartbeats 40000000 in
set_option maxRecDepth 100000 in
theorem sread_any (s : ByteArray) (w : World) (hs : s.size ≤ 900) : Calls Tryd.prog 7 #[.string s] w (SReadPost s w) := by
  obtain ⟨i2, hi2, hz20, hz21, hz22⟩ := info_parts info32
  obtain ⟨i3, hi3, hz30, hz31, hz32⟩ := info_parts info30
  by_cases hem : s = ⟨#[]⟩
  · subst hem
    have e1 : (([] : List UInt8) == []) = true := rfl
    go_enter Tryd.func7, Tryd.ntmps7
    go_wp2_with fail
    go_ret2
    refine ⟨_, true, rfl, Below.refl _ _, fun _ => ⟨Dn.init, .nil _ _, .inl rfl, (MemP.start w).read (by simp)⟩⟩
  · have e1 : s.toList.isEmpty = false := by
      rw [toList_eq, List.isEmpty_eq_false_iff]
      intro h
      exact hem (ByteArray.ext (Array.ext' h))
    have HEM := Lib.hid hem
    clear hem
    go_enter Tryd.func7, Tryd.ntmps7
    go_wp2_with fail
    go_loopg [5, 2, 4, 6, 7, 8, 9] (s.size + 1) (fun gk i x v _ _ _ _ wr => ∃ (k : Nat) (u : Value) (vs : List Value) (dn : Name) (p : Value) (part : List Attr) (wp : World), u = x ∧ p = v ∧ k ≤ s.size ∧ gk = s.size + 1 - k ∧ i = .int .i64 k ∧ Hid (MemP w wp wr u vs dn p part) ∧ Hid (Dn.Runs s.data.toList 0 Dn.init k ⟨false, 0, [], Dn.none0, part, dn⟩))
    case atStart => exact ⟨0, _, [], [], _, [], w, rfl, rfl, by omega, by omega, rfl, Lib.hid (MemP.start w), Lib.hid (.nil _ _)⟩
    case round =>
      obtain ⟨k, u, vs, dn, v, part, wp, rfl, rfl, hk, hg, rfl, HM, HR⟩ := hrel
      have hT := (HR.out.tight Dn.tight_init).1
      have hpn : part.length ≤ 900 := by have h : part.length ≤ k := hT.2.2.1; omega
      have hdn : dn.length ≤ 900 := by have h : dn.length ≤ k := hT.2.2.2.1; omega
      clear hT e1
      go_wp2_with fail
      obtain ⟨wo, hwo⟩ : ∃ wo : World, wo = wr := ⟨_, rfl⟩
      subst hwo
      go_loopg [6] (s.size + 1 - k) (fun g2 i2 wi => ∃ j : Nat, k ≤ j ∧ j ≤ s.size ∧ g2 = s.size + 1 - j ∧ i2 = .int .i64 j ∧ wo = wi)
      case atStart => exact ⟨k, by omega, by omega, by omega, rfl, rfl⟩
      case round =>
        obtain ⟨j, hkj, hj, hg2, rfl, rfl⟩ := hrel
        have b0 : (0 : Int) ≤ (j : Int) := by omega
        have b1 : (0 : Int) ≤ (k : Int) := by omega
        have b2 : (k : Int) ≤ (j : Int) := by omega
        have b3 : (j : Int) ≤ (s.size : Int) := by omega
        by_cases hlt : j < s.size
        · by_cases h61 : s[j] = 61
          · have e61 : ((s[j].toNat : Nat) : Int) = 61 := congrArg (fun c : UInt8 => ((c.toNat : Nat) : Int)) h61
            have HE := Lib.hid h61
            have HTY := Lib.hid (type_any (s.extract k j) wo (by rw [ByteArray.size_extract]; omega))
            have HV := Lib.hid (show ∀ W, Calls Tryd.prog 18 #[.string s, .int .i64 ((j : Int) + 1)] W (ValPost s (j + 1) W) from fun W => by
              have h := val_any s (j + 1) W (by omega) (by omega)
              rwa [show ((j + 1 : Nat) : Int) = (j : Int) + 1 from by omega] at h)
            clear h61
            go_wp2_with fail
            refine HTY.out.mono ?_
            rintro e w2 ⟨b, rfl, rfl, hb⟩
            cases b with
            | false =>
              clear hb
              go_wp2_with fail
              go_ret2
              exact SReadPost.no HM.out.grew _
            | true =>
              have HT := Lib.hid (hb rfl)
              clear hb
              go_wp2_with fail
              refine (HV.out _).mono ?_
              rintro e w2 ⟨vv, q, ok, rfl, hb2, hok⟩
              have HM1 := Lib.hid (HM.out.move hb2)
              cases ok with
              | false =>
                clear hb2 hok
                go_wp2_with fail
                go_ret2
                exact SReadPost.no HM1.out.grew _
              | true =>
                have HOK := Lib.hid (hok rfl)
                have HRE := Lib.hid (runs_attr hkj hlt HE.out HT.out HOK.out HR.out)
                have HNE := Lib.hid (show vv.data.toList ≠ [] from fun h => by
                  have h0 : vv.size = 0 := by rw [← K.bsize, h]; rfl
                  have := HOK.out.2.2.1
                  omega)
                have hq1 : q ≤ s.size := HOK.out.2.1
                have c0 : (0 : Int) ≤ (q : Int) := by omega
                clear hb2 hok
                have HW := Lib.hid HM1.out.2.2.2.2
                have hq0 : j + 1 < q := HOK.out.1
                have hwl1 : wp.heap.size ≤ w2.heap.size := Below.size HM1.out.2.1
                go_wp2_with (at_builtin; refine Hid.out ?_)
                refine Lib.hid ?_
                refine wpList_append_lies _ rfl _ _ _ rfl wp.heap.size 32 i2 _ 2 32 Tryd.underlying30 hi2 hz20 hz21 hz22 rfl (by omega) v part.length (cellsA part) rfl (HW.out.alloc _) ⟨w2.heap.size, 0, none⟩ 1 1 [.string (s.extract k j), .string vv] rfl rfl (World.news_of_block (cs := #[.string (s.extract k j), .string vv]) (t := 32) (fr := (0, 0)) (new _ _ rfl)) (by simp [Value.oneCell']) (by omega) (by unfold maxLen; omega) (by omega) (by simp; omega) (w2.heap.size + 1) (by simp) ?_
                intro gg cp w4 hown1 hgrow hat hlt1
                have hwl2 : w.heap.size ≤ w4.heap.size := Below.size (HM1.out.push (a := (s.extract k j, vv)) hown1 hgrow).grew
                have HM2 := Lib.hid (HM1.out.push (a := (s.extract k j, vv)) hown1 hgrow)
                clear hown1 hgrow hat hlt1
                by_cases hqe : q = s.size
                · subst hqe
                  have HU := Lib.hid HM2.out.own
                  go_wp2_with (at_builtin; refine Hid.out ?_)
                  refine Lib.hid ?_
                  refine wpList_append_lies _ rfl _ _ _ rfl w.heap.size 30 i3 _ 1 24 Tryd.underlying23 hi3 hz30 hz31 hz32 rfl (by omega) u dn.length vs rfl (HU.out.alloc _) ⟨w4.heap.size, 0, none⟩ 1 1 [.slice (some ⟨gg, 0, none⟩) (part.length + 1) cp] rfl rfl (World.news_of_block (cs := #[.slice (some ⟨gg, 0, none⟩) (part.length + 1) cp]) (t := 30) (fr := (0, 0)) (new _ _ rfl)) (by simp [Value.oneCell']) (by omega) (by unfold maxLen; omega) (by omega) (by simp; omega) (w4.heap.size + 1) (by simp) ?_
                  intro g3 c3 w3 hown3 hgrow3 hat3 hlt3
                  have HM3 := Lib.hid (HM2.out.next hown3 hgrow3)
                  clear hown3 hgrow3 hat3 hlt3
                  go_wp2_with fail
                  go_ret2
                  refine ⟨_, true, rfl, HM3.out.grew, fun _ => ⟨_, HRE.out, .inr HT.out.1, ?_⟩⟩
                  have hfin : Dn.final ⟨false, 0, vv.data.toList, s.extract k j, part, dn⟩ = dn ++ [part ++ [(s.extract k j, vv)]] := by
                    unfold Dn.final
                    rw [if_neg HNE.out, strOf_whole]
                  rw [hfin]
                  refine HM3.out.read fun x hx a ha => ?_
                  have h := (((Dn.final_tight (HRE.out.tight Dn.tight_init)).2 x (hfin ▸ hx)).2 a ha)
                  unfold maxLen; omega
                · have hql : q < s.size := by omega
                  by_cases h44 : s[q] = 44
                  · have e44 : ((s[q].toNat : Nat) : Int) = 44 := congrArg (fun c : UInt8 => ((c.toNat : Nat) : Int)) h44
                    have HE44 := Lib.hid h44
                    clear h44 hqe
                    have HU := Lib.hid HM2.out.own
                    go_wp2_with (at_builtin; refine Hid.out ?_)
                    refine Lib.hid ?_
                    refine wpList_append_lies _ rfl _ _ _ rfl w.heap.size 30 i3 _ 1 24 Tryd.underlying23 hi3 hz30 hz31 hz32 rfl (by omega) u dn.length vs rfl (HU.out.alloc _) ⟨w4.heap.size, 0, none⟩ 1 1 [.slice (some ⟨gg, 0, none⟩) (part.length + 1) cp] rfl rfl (World.news_of_block (cs := #[.slice (some ⟨gg, 0, none⟩) (part.length + 1) cp]) (t := 30) (fr := (0, 0)) (new _ _ rfl)) (by simp [Value.oneCell']) (by omega) (by unfold maxLen; omega) (by omega) (by simp; omega) (w4.heap.size + 1) (by simp) ?_
                    intro g3 c3 w3 hown3 hgrow3 hat3 hlt3
                    have HM3 := Lib.hid (HM2.out.next hown3 hgrow3)
                    clear hown3 hgrow3 hat3 hlt3
                    go_wp2_with fail
                    go_roundg (s.size - q)
                    case measure => omega
                    case rel =>
                      refine ⟨q + 1, _, _, dn ++ [part ++ [(s.extract k j, vv)]], _, [], w3, rfl, rfl, by omega, by omega, by go_num, HM3, Lib.hid ?_⟩
                      have g := get_at hql
                      rw [HE44.out] at g
                      have h := HRE.out.snoc (.comma q _ g rfl HT.out.1)
                      rwa [show Dn.strOf (Dn.St.mk false 0 vv.data.toList (s.extract k j) part dn).buf (Dn.St.mk false 0 vv.data.toList (s.extract k j) part dn).sp = vv from strOf_whole vv] at h
                  · have h43 : s[q] = 43 := (HOK.out.2.2.2.1 hql).resolve_left h44
                    have e43 : ((s[q].toNat : Nat) : Int) = 43 := congrArg (fun c : UInt8 => ((c.toNat : Nat) : Int)) h43
                    have HE43 := Lib.hid h43
                    clear h44 h43 hqe
                    go_wp2_with fail
                    go_roundg (s.size - q)
                    case measure => omega
                    case rel =>
                      refine ⟨q + 1, u, vs, dn, _, part ++ [(s.extract k j, vv)], wp, rfl, rfl, by omega, by omega, by go_num, HM2, Lib.hid ?_⟩
                      have g := get_at hql
                      rw [HE43.out] at g
                      have h := HRE.out.snoc (.plus q _ g rfl HT.out.1)
                      rwa [show Dn.strOf (Dn.St.mk false 0 vv.data.toList (s.extract k j) part dn).buf (Dn.St.mk false 0 vv.data.toList (s.extract k j) part dn).sp = vv from strOf_whole vv] at h
          · have n61 : (((s[j].toNat : Nat) : Int) != 61) = true := by have := ne_u8 h61; simpa using this
            clear h61
            go_wp2_with fail
            go_roundg (s.size - j)
            case measure => omega
            case rel => exact ⟨j + 1, by omega, by omega, by omega, by go_num, rfl⟩
        · obtain rfl : j = s.size := by omega
          go_wp2_with fail
          go_ret2
          exact SReadPost.no HM.out.grew _
end Go.Proofs.YtnjjhklefamaoaaDoor
