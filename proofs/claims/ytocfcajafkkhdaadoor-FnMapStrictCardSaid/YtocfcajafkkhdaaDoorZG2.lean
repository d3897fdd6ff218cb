/-
  subjectInfo: a subject's tokens, how many of them are the wildcard of one token, and whether the last one stands for all that follows.
  What a transform holds in memory: rows of the call's own, of four element types, slices of whole numbers, and a map from a wildcard's number to its place.
  zzContainsAny over texts of ASCII letters: none of the letters stands there.
  getMappingFunctionArgs; zzTrim at a text without white space.
  The reference's Decimal.
  ValidateMapping over a destination of plain tokens, of which the last may stand for all that follows; impl.ValidMapping.
-/
import Derived.Test.YtocfcajafkkhdaaDoorZG1
import Derived.Maps.OwnOps
import Derived.Maps.OwnSet
import Derived.Lib.OthersKept
import Derived.LoopTactic
import Derived.Deep.Cut
/- Si -/
section
namespace Go.Proofs.YtocfcajafkkhdaaDoor
open Go.RowKit

theorem sp_length (c : UInt8) : ∀ (s : List UInt8), (sp c s).length ≤ s.length + 1
  | [] => by simp [sp]
  | x :: r => by
    have h := sp_length c r
    unfold sp
    split
    · simp; omega
    · split
      · simp
      · next e => rw [e] at h; simp at h ⊢; omega
/-- tokens that are a subject's: none is empty, the one that stands for all that follows is the last alone -/
def Toks (ts : List (List UInt8)) : Prop := (∀ t ∈ ts, t ≠ []) ∧ ∀ (a b : List (List UInt8)), ts = a ++ [62] :: b → b = []
def fwc (ts : List (List UInt8)) : Bool := ts.any (· == [62])
def pwcs (ts : List (List UInt8)) : Nat := ts.countP (· == [42])
theorem fwc_nil : fwc [] = false := rfl
theorem fwc_snoc (a : List (List UInt8)) (t : List UInt8) : fwc (a ++ [t]) = (fwc a || t == [62]) := by simp [fwc]
theorem pwcs_snoc (a : List (List UInt8)) (t : List UInt8) : pwcs (a ++ [t]) = pwcs a + if t = [42] then 1 else 0 := by
  simp [pwcs, List.countP_append, List.countP_cons]
theorem Toks.no {ts : List (List UInt8)} (h : Toks ts) {a b : List (List UInt8)} {t : List UInt8} (e : ts = a ++ t :: b) : fwc a = false := by
  cases hf : fwc a with
  | false => rfl
  | true =>
    obtain ⟨u, hu, hx⟩ := List.any_eq_true.1 hf
    have hu2 : u = [62] := by simpa using hx
    subst hu2
    obtain ⟨a1, a2, rfl⟩ := List.append_of_mem hu
    have := h.2 a1 (a2 ++ t :: b) (by rw [e]; simp)
    simp at this
theorem bs_size (t : List UInt8) : (⟨t.toArray⟩ : ByteArray).size = t.length := by rw [← K.bsize]

def InfoPost (ts : List (List UInt8)) (w : World) (e : Ending) (w' : World) : Prop :=
  ∃ v, e = .returned (.tuple #[.bool true, v, .int .i64 (pwcs ts), .bool (fwc ts)]) ∧ Below w.heap.size w w' ∧ w'.ownsRow w.heap.size 9 1 v ts.length (ts.map sv)
set_option maxHeartbeats 1000000 in
set_option maxRecDepth 100000 in
theorem info_any (s : ByteArray) (w : World) (hs : s.size ≤ 100000) (ht : Toks (sp 46 s.data.toList)) : Calls Tryd.prog 38 #[.string s] w (InfoPost (sp 46 s.data.toList) w) := by
  have e1 : s.toList.isEmpty = false := by
    rw [ByteArray.toList_eq]
    cases h : s.data.toList with
    | nil =>
      rw [h] at ht
      exact absurd rfl (ht.1 [] (by simp [sp]))
    | cons x r => rfl
  have hsp := split_any 46 s
  have HT := Lib.hid ht
  clear ht
  go_enter Tryd.func38, Tryd.ntmps38
  go_wp2_with fail
  refine (hsp _ hs).mono ?_
  clear hsp
  rintro e w1 ⟨v, rfl, hb, hown⟩
  generalize hts : sp 46 s.data.toList = ts at HT hown ⊢
  have hlen : ts.length ≤ 100001 := by rw [← hts]; have := sp_length 46 s.data.toList; rw [K.bsize] at this; omega
  have HTS := Lib.hid hts
  clear hts
  obtain ⟨A, cap, rfl, hnc, hlen', hA, hbase⟩ := K.lies_of_own hown
  have HA := Lib.hid hA
  have HO := Lib.hid (And.intro hown hb)
  clear hlen' hA hbase hown hb e1
  go_wp2_with fail
  go_loop [6, 7, 17] (fun p f i => ∃ k : Nat, k ≤ ts.length ∧ i = .int .i64 k ∧ p = .int .i64 (pwcs (ts.take k)) ∧ f = .bool (fwc (ts.take k))) (fun _ _ i => ts.length - (intOf i).toNat)
  case atStart => exact ⟨0, Nat.zero_le _, rfl, rfl, rfl⟩
  case round =>
    obtain ⟨k, hk, rfl, rfl, rfl⟩ := hrel
    by_cases hlt : k < ts.length
    · have hsp : ts = ts.take k ++ ts[k] :: ts.drop (k + 1) := by rw [← List.drop_eq_getElem_cons hlt, List.take_append_drop]
      have hno := HT.out.no hsp
      have hne := HT.out.1 ts[k] (List.getElem_mem _)
      obtain ⟨ab, ao, rfl, hab, hcs⟩ := HA.out (by omega)
      have c1 : w1.cell? ⟨ab, ao + k, none⟩ = some (sv ts[k]) := by
        rw [hcs k hlt]; simp [List.getD, hlt]
      have hf := fwc_snoc (ts.take k) ts[k]
      have hp := pwcs_snoc (ts.take k) ts[k]
      rw [← List.take_succ_eq_append_getElem hlt] at hf hp
      have hcnt : pwcs (ts.take k) ≤ k := by
        have := List.countP_le_length (p := (· == [42])) (l := ts.take k)
        rw [List.length_take] at this
        unfold pwcs
        omega
      rw [hno]
      rw [hno, Bool.false_or] at hf
      clear hsp hcs hno
      generalize ts[k] = t at hne c1 hf hp
      obtain ⟨tb, htb⟩ : ∃ tb : ByteArray, (⟨t.toArray⟩ : ByteArray) = tb := ⟨_, rfl⟩
      have hsz : tb.size = t.length := by rw [← htb, bs_size]
      have htl : tb.data.toList = t := by rw [← htb]
      unfold sv at c1
      rw [htb] at c1
      have hpos : 0 < tb.size := by rw [hsz]; exact List.length_pos_iff.2 hne
      have z0 : ((tb.size : Int) == 0) = false := by rw [beq_eq_false_iff_ne]; omega
      have HF := Lib.hid hf
      have HP := Lib.hid hp
      have HTL := Lib.hid htl
      clear hf hp htb hsz hne htl
      by_cases h1 : 1 < tb.size
      · have HX := Lib.hid (show t ≠ [62] ∧ t ≠ [42] by rw [← HTL.out]; constructor <;> (intro e; have := congrArg List.length e; rw [K.bsize] at this; simp at this; omega))
        go_wp2_with fail
        go_round
        case rel => exact ⟨k + 1, by omega, by go_num, by rw [HP.out, if_neg HX.out.2]; rfl, by rw [HF.out, beq_eq_false_iff_ne.2 HX.out.1]⟩
        case measure => simp [intOf]; omega
      · have h1' : tb.size = 1 := by omega
        have ht : t = [tb[0]] := by
          rw [← HTL.out]
          have := K.bsize tb
          rw [h1'] at this
          obtain ⟨x, hx⟩ := List.length_eq_one_iff.1 this
          have e0 : tb.data.toList[0]? = some tb[0] := get_at (by omega)
          rw [hx] at e0 ⊢
          simpa using e0
        have HS := Lib.hid h1'
        have HT1 := Lib.hid ht
        have h1i : ¬ (1 : Int) < (tb.size : Int) := by omega
        clear h1 h1' ht
        by_cases h62 : tb[0] = 62
        · have e62 : ((tb[0].toNat : Nat) : Int) = 62 := congrArg (fun c : UInt8 => ((c.toNat : Nat) : Int)) h62
          have HX := Lib.hid h62
          clear h62
          go_wp2_with fail
          go_round
          case rel => exact ⟨k + 1, by omega, by go_num, by rw [HP.out, if_neg (by rw [HT1.out, HX.out]; decide)]; rfl, by rw [HF.out, HT1.out, HX.out]; rfl⟩
          case measure => simp [intOf]; omega
        · have e62 : ¬ ((tb[0].toNat : Nat) : Int) = 62 := fun e => h62 (UInt8.toNat_inj.1 (by simpa using (show tb[0].toNat = 62 by omega)))
          have HX := Lib.hid h62
          clear h62
          by_cases h42 : tb[0] = 42
          · have e42 : ((tb[0].toNat : Nat) : Int) = 42 := congrArg (fun c : UInt8 => ((c.toNat : Nat) : Int)) h42
            have HY := Lib.hid h42
            clear h42 e62
            go_wp2_with fail
            go_round
            case rel => exact ⟨k + 1, by omega, by go_num, by rw [HP.out, if_pos (by rw [HT1.out, HY.out])]; go_num, by rw [HF.out, HT1.out, HY.out]; rfl⟩
            case measure => simp [intOf]; omega
          · have e42 : ¬ ((tb[0].toNat : Nat) : Int) = 42 := fun e => h42 (UInt8.toNat_inj.1 (by simpa using (show tb[0].toNat = 42 by omega)))
            have HY := Lib.hid h42
            clear h42
            go_wp2_with fail
            go_round
            case rel => exact ⟨k + 1, by omega, by go_num, by rw [HP.out, if_neg (by rw [HT1.out]; intro e; exact HY.out (by simpa using e))]; rfl, by rw [HF.out, HT1.out]; simp [HX.out]⟩
            case measure => simp [intOf]; omega
    · go_wp2_with fail
      refine bodyPost_ret (v := .tuple #[.bool true, .slice A ts.length cap, .int .i64 (pwcs (ts.take k)), .bool (fwc (ts.take k))]) (by simp [results, Tryd.results38, go_sem]) rfl ?_
      have hkn : ts.take k = ts := List.take_of_length_le (by omega)
      rw [hkn, HTS.out]
      exact ⟨_, rfl, HO.out.2, HO.out.1⟩
end Go.Proofs.YtocfcajafkkhdaaDoor
end
/- Mm -/
section
namespace Go.Proofs.YtocfcajafkkhdaaDoor
open Go.RowKit

/-! ## appending one element -/
theorem info82 : (Tryd.prog.info? 82).map (fun i => (i.zero, i.size, i.bytes)) = some (some (.int .i16 0), 1, 2) := by kernel_rfl
theorem info39 : (Tryd.prog.info? 39).map (fun i => (i.zero, i.size, i.bytes)) = some (some (.slice none 0 0), 1, 24) := by kernel_rfl
theorem info21 : (Tryd.prog.info? 21).map (fun i => (i.zero, i.size, i.bytes)) = some (some (.int .i32 0), 1, 4) := by kernel_rfl
theorem info3 : (Tryd.prog.info? 3).map (fun i => (i.zero, i.size, i.bytes)) = some (some (.int .i64 0), 1, 8) := by kernel_rfl
theorem wpList_app1 {t e : TypeId} {z : Value} {by_ : Nat} (hinfo : (Tryd.prog.info? e).map (fun i => (i.zero, i.size, i.bytes)) = some (some z, 1, by_)) (ht : Tryd.prog.underlying t = some (.slice e)) (hzs : z.cells.size = 1) (hby : by_ ≤ 100)
    {ops : Array Oper} {rest : List Oper} {o : Oper} {a : Act} {w : World} {Q : Exit → Act → World → Prop} (hgd : o.guard = none) (s x : Operand) (ho : o.op = .call { callee := .builtin .append, args := #[s, x], argTypes := #[t, t] })
    (base : Nat) (v : Value) (n : Nat) (xs : List Value) (hs : a.eval s = v) (hown : w.ownsRow base e 1 v n xs) (g c : Nat) (u : Value) (hx : a.eval x = .slice (some ⟨g, 0, none⟩) 1 c) (hc : w.cell? ⟨g, 0, none⟩ = some u) (h1 : u.oneCell' = true)
    (hn : n ≤ 100000) (hbase : base ≤ w.heap.size) (h : ∀ v' w', w'.ownsRow base e 1 v' (n + 1) (xs ++ [u]) → w.grownBy w' v.ownBlock → wpList Tryd.prog ops Q rest (a.put o.dst v') w') : wpList Tryd.prog ops Q (o :: rest) a w := by
  obtain ⟨i0, hi0, hz0, hz1, hz2⟩ := info_parts hinfo
  refine wpList_append_own _ hgd s x t ho base e i0 z 1 by_ ht hi0 hz0 hz1 hz2 hzs (by decide) v n xs hs hown ⟨g, 0, none⟩ 1 c [u] hx rfl ?_ (by intro u hu; simp at hu; subst hu; exact h1) (by unfold maxLen; omega)
    (Nat.le_trans (Nat.mul_le_mul (show n + 1 ≤ 100001 by omega) hby) (by decide)) hbase (fun v' w' h1 h2 _ => h v' w' h1 h2)
  intro j u hj
  match j, hj with
  | 0, hj =>
    simp at hj
    subst hj
    rw [Addr.add_lit]
    exact hc
theorem new_cell (w : World) (u : Value) (e : TypeId) : (w.alloc (.cells #[u] e)).cell? ⟨w.heap.size, 0, none⟩ = some u := by
  rw [World.cell?_alloc_at _ _ _ _ (by simp)]; rfl

/-! ## what stays -/
/-- all blocks stay but those of cells of this type -/
def Rest (e : TypeId) (w w' : World) : Prop := ∀ (b : Nat) (o : Obj), w.heap[b]? = some o → (∀ cs fz, o ≠ .cells cs e fz) → w'.heap[b]? = some o
theorem lt_of {w : World} {b : Nat} {o : Obj} (h : w.heap[b]? = some o) : b < w.heap.size := (Array.getElem?_eq_some_iff.1 h).1
theorem Rest.below {e : TypeId} {w w' : World} (h : Below w.heap.size w w') : Rest e w w' := fun b _ hb _ => (h.block b (lt_of hb)).trans hb
theorem Rest.trans {e : TypeId} {a b c : World} (h : Rest e a b) (k : Rest e b c) : Rest e a c := fun x o hx hn => k x o (h x o hx hn) hn
theorem row_block {w : World} {base : Nat} {e : TypeId} {u : Value} {z n : Nat} {ps : List Value} (h : w.ownsRow base e z u n ps) {g : Nat} (hg : u.ownBlock = some g) : ∃ cur, w.heap[g]? = some (.cells cur e (0, 0)) := by
  rcases h.2 with ⟨rfl, _⟩ | ⟨g', cap, cur, rfl, _, hb, _⟩
  · simp [Value.ownBlock] at hg
  · simp [Value.ownBlock] at hg
    subst hg
    exact ⟨cur, hb⟩
theorem row_move {w w' : World} {base base' : Nat} {e : TypeId} {u : Value} {z n : Nat} {ps : List Value} (h : w.ownsRow base e z u n ps) (hb : ∀ g, u.ownBlock = some g → base' ≤ g ∧ w'.heap[g]? = w.heap[g]?) : w'.ownsRow base' e z u n ps := by
  refine ⟨h.1, ?_⟩
  rcases h.2 with hn | ⟨g, cap, cur, rfl, _, hg, rest⟩
  · exact .inl hn
  · obtain ⟨h1, h2⟩ := hb g rfl
    exact .inr ⟨g, cap, cur, rfl, h1, h2.trans hg, rest⟩
theorem Rest.row {e t : TypeId} {w w' : World} {base : Nat} {u : Value} {z n : Nat} {ps : List Value} (hr : Rest e w w') (h : w.ownsRow base t z u n ps) (hne : t ≠ e) : w'.ownsRow base t z u n ps :=
  row_move h fun g hg => by
    obtain ⟨cur, hc⟩ := row_block h hg
    exact ⟨(h.lt g hg).1, (hr g _ hc (fun cs fz e2 => by injection e2 with _ e2 _; exact hne e2)).trans hc.symm⟩
/-- behind a new block, and an append to a row of that type -/
theorem Rest.app {e : TypeId} {w w' : World} {base z n : Nat} {u x : Value} {ps : List Value} (h : w.ownsRow base e z u n ps) (hg : (w.alloc (.cells #[x] e)).grownBy w' u.ownBlock) : Rest e w w' := by
  intro b o hb hn
  have hb2 : (w.alloc (.cells #[x] e)).heap[b]? = some o := (Below.heap_alloc _ _ _ (lt_of hb)).trans hb
  refine (hg.block b (lt_of hb2) (fun e2 => ?_)).trans hb2
  obtain ⟨cur, hc⟩ := row_block h e2.symm
  rw [hb] at hc
  exact hn _ _ (Option.some.inj hc)

/-! ## slices of whole numbers -/
def Ints (w : World) (v : Value) (zs : List Int) : Prop :=
  ∃ (g c : Nat) (cur : Array Value) (fz : Nat × Nat), v = .slice (some ⟨g, 0, none⟩) zs.length c ∧ zs.length ≤ c ∧ w.heap[g]? = some (.cells cur 3 fz) ∧ ∀ j, j < zs.length → cur[j]? = some (.int .i64 (zs.getD j 0))
theorem Ints.keep {w w' : World} {v : Value} {zs : List Int} (h : Ints w v zs) {e : TypeId} (hr : Rest e w w') (hne : (3 : TypeId) ≠ e) : Ints w' v zs := by
  obtain ⟨g, c, cur, fz, h1, h2, h3, h4⟩ := h
  exact ⟨g, c, cur, fz, h1, h2, hr g _ h3 (fun cs fz e2 => by injection e2 with _ e2 _; exact hne e2), h4⟩
theorem Ints.below {w w' : World} {v : Value} {zs : List Int} (h : Ints w v zs) (hb : Below w.heap.size w w') : Ints w' v zs := by
  obtain ⟨g, c, cur, fz, h1, h2, h3, h4⟩ := h
  exact ⟨g, c, cur, fz, h1, h2, (hb.block g (lt_of h3)).trans h3, h4⟩
theorem Ints.lies {w : World} {v : Value} {zs : List Int} (h : Ints w v zs) : ∃ g c, v = .slice (some ⟨g, 0, none⟩) zs.length c ∧ g < w.heap.size ∧ ∀ j, j < zs.length → w.cell? ⟨g, j, none⟩ = some (.int .i64 (zs.getD j 0)) := by
  obtain ⟨g, c, cur, fz, h1, h2, h3, h4⟩ := h
  exact ⟨g, c, h1, lt_of h3, fun j hj => by simp [World.cell?, h3, h4 j hj]⟩
theorem Ints.new (w : World) (z : Int) : Ints (w.alloc (.cells #[.int .i64 z] 3)) (.slice (some ⟨w.heap.size, 0, none⟩) 1 1) [z] :=
  ⟨_, _, _, _, rfl, Nat.le_refl _, K.heap_alloc_at w _, fun j hj => by
    obtain rfl : j = 0 := by simp at hj; omega
    rfl⟩
theorem Ints.of_row {w : World} {base : Nat} {v : Value} {zs : List Int} (h : w.ownsRow base 3 1 v zs.length (zs.map (Value.int .i64))) (hne : zs ≠ []) : Ints w v zs := by
  have hp : 0 < zs.length := List.length_pos_iff.2 hne
  rcases h.2 with ⟨_, hn⟩ | ⟨g, cap, cur, rfl, hb, hg, hnc, _, _, htake⟩
  · omega
  · refine ⟨g, cap, cur, _, rfl, hnc, hg, fun j hj => ?_⟩
    have hx : (zs.map (Value.int .i64))[j]? = some (.int .i64 (zs.getD j 0)) := by simp [List.getD, hj]
    have := h.cells (g := g) rfl j _ hx
    rw [Addr.add_lit] at this
    simpa [World.cell?, hg] using this

/-! ## the map from a wildcard's number to its place -/
def ik (n : Int) : Lit := .int .i64 n
def StiP (w : World) (b : Nat) (ps : List Nat) : Prop :=
  ∃ D : DataW Unit, w.ownsMap Tryd.prog 3 (plainElem Tryd.prog 3) b ps.length D ∧ Maps.size D = ps.length ∧ (∀ i, i < ps.length → ∀ z, D.atKey (ik ((i : Int) + 1)) z = .lit (.int .i64 ((ps.getD i 0 : Nat) : Int))) ∧
    ∀ kl, Maps.has D kl = true → ∃ i, i < ps.length ∧ kl = ik ((i : Int) + 1)
theorem K3 : Maps.Keyed Tryd.prog 3 := Maps.int_keyed Tryd.underlying3
theorem StiP.new (w : World) : StiP (w.alloc (.map #[] 0)) w.heap.size [] := ⟨.map [], World.ownsMap_made _ _ _ _, rfl, fun i hi => by simp at hi, fun kl h => by simp [Maps.has] at h⟩
theorem StiP.move {w w' : World} {b : Nat} {ps : List Nat} (h : StiP w b ps) (hb : w'.heap[b]? = w.heap[b]?) : StiP w' b ps := by
  obtain ⟨D, ⟨es, clock, hm, r⟩, r2⟩ := h
  exact ⟨D, ⟨es, clock, hb.trans hm, r⟩, r2⟩
theorem StiP.lt {w : World} {b : Nat} {ps : List Nat} (h : StiP w b ps) : b < w.heap.size := by
  obtain ⟨D, h1, _⟩ := h
  exact h1.lt
theorem StiP.rest {e : TypeId} {w w' : World} {b : Nat} {ps : List Nat} (h : StiP w b ps) (hr : Rest e w w') : StiP w' b ps := by
  refine h.move ?_
  obtain ⟨D, ⟨es, clock, hm, r⟩, r2⟩ := h
  rw [hm]
  exact hr b _ hm (fun cs fz e2 => by cases e2)
theorem ik_key {n : Nat} (h : n ≤ 100000) : keyOf Tryd.prog 3 (.int .i64 ((n : Int) + 1)) = some (ik ((n : Int) + 1)) := Maps.keyOf_int_mk Tryd.underlying3 (by simp [Lit.wf, IntKind.min, IntKind.max, IntKind.signed, IntKind.bits]; omega)
theorem ik_inj {a b : Int} (h : ik a = ik b) : a = b := by unfold ik at h; injection h
theorem ik_is (n : Int) : WideAt.IsKeyLit (ik n) := by unfold ik; simp [WideAt.IsKeyLit]
theorem StiP.put {w w' : World} {b : Nat} {ps : List Nat} {D : DataW Unit} (h1 : w.ownsMap Tryd.prog 3 (plainElem Tryd.prog 3) b ps.length D) (h2 : Maps.size D = ps.length)
    (h3 : ∀ i, i < ps.length → ∀ z, D.atKey (ik ((i : Int) + 1)) z = .lit (.int .i64 ((ps.getD i 0 : Nat) : Int))) (h4 : ∀ kl, Maps.has D kl = true → ∃ i, i < ps.length ∧ kl = ik ((i : Int) + 1)) (p : Nat)
    (h : w'.ownsMap Tryd.prog 3 (plainElem Tryd.prog 3) b (ps.length + 1) (D.put (ik ((ps.length : Int) + 1)) (.lit (.int .i64 (p : Int))))) : StiP w' b (ps ++ [p]) := by
  have hno : Maps.has D (ik ((ps.length : Int) + 1)) = false := by
    cases hh : Maps.has D (ik ((ps.length : Int) + 1)) with
    | false => rfl
    | true =>
      obtain ⟨i, hi, e⟩ := h4 _ hh
      have := ik_inj e
      omega
  refine ⟨_, by rw [List.length_append]; exact h, ?_, fun i hi z => ?_, fun kl hk => ?_⟩
  · rw [Maps.size_put (h1.tidy K3), hno, if_neg (by simp), h2]; simp
  · rw [List.length_append, List.length_singleton] at hi
    rcases Nat.lt_or_ge i ps.length with hl | hl
    · rw [Maps.atKey_put_other (fun e => by have := ik_inj e; omega), h3 i hl z]
      simp [List.getD, List.getElem?_append_left hl]
    · obtain rfl : i = ps.length := by omega
      rw [Maps.atKey_put_same h1.isMap (ik_is _)]
      simp [List.getD]
  · rw [List.length_append, List.length_singleton]
    by_cases e : kl = ik ((ps.length : Int) + 1)
    · exact ⟨ps.length, by omega, e⟩
    · rw [Maps.has_put_other e] at hk
      obtain ⟨i, hi, e2⟩ := h4 kl hk
      exact ⟨i, by omega, e2⟩
end Go.Proofs.YtocfcajafkkhdaaDoor
end
/- Ca -/
section
namespace Go.Proofs.YtocfcajafkkhdaaDoor
open Go.RowKit

def NonePost (v : Value) (w : World) (e : Ending) (w' : World) : Prop := e = .returned v ∧ Below w.heap.size w w'
set_option maxHeartbeats 4000000 in
set_option maxRecDepth 100000 in
theorem anyIndex_none (s ch : ByteArray) (w : World) (hs : s.size ≤ 100000) (hc : ch.size ≤ 1000) (h1 : ∀ i (h : i < s.size), s[i].toNat < 128) (h2 : ∀ i (h : i < ch.size), ch[i].toNat < 128) (hne : ∀ i (h : i < s.size) j (h' : j < ch.size), s[i] ≠ ch[j]) :
    Calls Tryd.prog 50 #[.string s, .string ch] w (NonePost (.int .i64 (-1)) w) := by
  have HH := Lib.hid (And.intro h1 (And.intro h2 hne))
  clear h1 h2 hne
  go_enter Tryd.func50, Tryd.ntmps50
  go_wp2_with fail
  have HS0 := Lib.hid (show (w.iter s 0).heap[w.heap.size]? = some (.stringIter s 0) ∧ Below w.heap.size w (w.iter s 0) ∧ w.heap.size < (w.iter s 0).heap.size from ⟨World.iter_heap w s 0, (Below.refl _ _).alloc (Nat.le_refl _) _, by simp [World.iter]⟩)
  go_loopg [] (s.size + 1) (fun gk wr => ∃ i : Nat, i ≤ s.size ∧ gk = s.size + 1 - i ∧ Hid (wr.heap[w.heap.size]? = some (.stringIter s i) ∧ Below w.heap.size w wr ∧ w.heap.size < wr.heap.size))
  case atStart => exact ⟨0, by omega, by omega, HS0⟩
  case round =>
    obtain ⟨i, hi, hg, HW⟩ := hrel
    by_cases hlt : i < s.size
    · have hnx : ∀ ty, (Instr.next (.pointer (some ⟨w.heap.size, 0, none⟩)) true ty).run Tryd.prog wr = .ok (.tuple #[.bool true, .int .i64 i, .int .i32 s[i].toNat]) (wr.iterAt w.heap.size s (i + 1)) := fun ty => Lib.run_next_ascii_at wr w.heap.size s i ty HW.out.1 hlt (HH.out.1 i hlt)
      have HV := Lib.hid (show (wr.iterAt w.heap.size s (i + 1)).heap[w.heap.size]? = some (.stringIter s (i + 1)) ∧ Below w.heap.size w (wr.iterAt w.heap.size s (i + 1)) ∧ w.heap.size < (wr.iterAt w.heap.size s (i + 1)).heap.size from
        ⟨Lib.iterAt_heap wr _ s i (i + 1) HW.out.1, Lib.below_iterAt HW.out.2.1 (Nat.le_refl _) s _, by rw [Lib.iterAt_size]; exact HW.out.2.2⟩)
      have HC := Lib.hid (fun j (h' : j < ch.size) => HH.out.2.2 i hlt j h')
      go_upto_region 4 with (fail)
      clear hnx
      generalize wr.iterAt w.heap.size s (i + 1) = wv at HV ⊢
      generalize s[i] = c at HC ⊢
      have HS1 := Lib.hid (show (wv.iter ch 0).heap[wv.heap.size]? = some (.stringIter ch 0) ∧ (wv.iter ch 0).heap[w.heap.size]? = some (.stringIter s (i + 1)) ∧ Below w.heap.size w (wv.iter ch 0) ∧ w.heap.size < (wv.iter ch 0).heap.size from
        ⟨World.iter_heap wv ch 0, (Below.heap_alloc _ _ _ HV.out.2.2).trans HV.out.1, HV.out.2.1.alloc (Nat.le_of_lt HV.out.2.2) _, by have := HV.out.2.2; simp [World.iter]; omega⟩)
      have hne := HV.out.2.2
      go_upto_region 5 with (fail)
      obtain ⟨gq, hgq⟩ : ∃ gq : Nat, gq = gk := ⟨_, rfl⟩
      subst hgq
      go_loopg [] (ch.size + 1) (fun g2 wi => ∃ j : Nat, j ≤ ch.size ∧ g2 = ch.size + 1 - j ∧ Hid (wi.heap[wv.heap.size]? = some (.stringIter ch j) ∧ wi.heap[w.heap.size]? = some (.stringIter s (i + 1)) ∧ Below w.heap.size w wi ∧ w.heap.size < wi.heap.size))
      case atStart => exact ⟨0, by omega, by omega, HS1⟩
      case round =>
        obtain ⟨j, hj, hg2, HI⟩ := hrel
        by_cases hlt2 : j < ch.size
        · have hnx : ∀ ty, (Instr.next (.pointer (some ⟨wv.heap.size, 0, none⟩)) true ty).run Tryd.prog wr = .ok (.tuple #[.bool true, .int .i64 j, .int .i32 ch[j].toNat]) (wr.iterAt wv.heap.size ch (j + 1)) := fun ty => Lib.run_next_ascii_at wr wv.heap.size ch j ty HI.out.1 hlt2 (HH.out.2.1 j hlt2)
          have HI2 := Lib.hid (show (wr.iterAt wv.heap.size ch (j + 1)).heap[wv.heap.size]? = some (.stringIter ch (j + 1)) ∧ (wr.iterAt wv.heap.size ch (j + 1)).heap[w.heap.size]? = some (.stringIter s (i + 1)) ∧ Below w.heap.size w (wr.iterAt wv.heap.size ch (j + 1)) ∧ w.heap.size < (wr.iterAt wv.heap.size ch (j + 1)).heap.size from
            ⟨Lib.iterAt_heap wr _ ch j (j + 1) HI.out.1, (Lib.iterAt_other wr wv.heap.size w.heap.size ch _ (by omega)).trans HI.out.2.1, Lib.below_iterAt HI.out.2.2.1 (by omega) ch _, by rw [Lib.iterAt_size]; exact HI.out.2.2.2⟩)
          have hcn := HC.out j hlt2
          have bne : (((c.toNat : Nat) : Int) == ((ch[j].toNat : Nat) : Int)) = false := ne_int hcn
          have bne2 : ¬ ((c.toNat : Nat) : Int) = ((ch[j].toNat : Nat) : Int) := by simpa using bne
          clear hcn
          go_wp2_with fail
          go_roundg (gk - 1)
          case measure => omega
          case rel => exact ⟨j + 1, by omega, by omega, HI2⟩
        · have hnx : ∀ ty, (Instr.next (.pointer (some ⟨wv.heap.size, 0, none⟩)) true ty).run Tryd.prog wr = .ok (.tuple #[.bool false]) wr := fun ty => Lib.run_next_end_at wr wv.heap.size ch j ty HI.out.1 hlt2
          go_wp2_with fail
          go_roundg (gq - 1)
          case measure => omega
          case rel => exact ⟨i + 1, by omega, by omega, Lib.hid ⟨HI.out.2.1, HI.out.2.2.1, HI.out.2.2.2⟩⟩
    · have hnx : ∀ ty, (Instr.next (.pointer (some ⟨w.heap.size, 0, none⟩)) true ty).run Tryd.prog wr = .ok (.tuple #[.bool false]) wr := fun ty => Lib.run_next_end_at wr w.heap.size s i ty HW.out.1 hlt
      go_wp2_with fail
      go_ret
      exact ⟨rfl, HW.out.2.1⟩
set_option maxRecDepth 100000 in
theorem any_none (s ch : ByteArray) (w : World) (hs : s.size ≤ 100000) (hc : ch.size ≤ 1000) (h1 : ∀ i (h : i < s.size), s[i].toNat < 128) (h2 : ∀ i (h : i < ch.size), ch[i].toNat < 128) (hne : ∀ i (h : i < s.size) j (h' : j < ch.size), s[i] ≠ ch[j]) :
    Calls Tryd.prog 36 #[.string s, .string ch] w (NonePost (.bool false) w) := by
  have h50 := anyIndex_none s ch w hs hc h1 h2 hne
  clear h1 h2 hne
  go_enter Tryd.func36, Tryd.ntmps36
  go_wp2_with fail
  refine h50.mono ?_
  rintro e w1 ⟨rfl, hb⟩
  go_wp2_with fail
  go_ret
  exact ⟨rfl, hb⟩
end Go.Proofs.YtocfcajafkkhdaaDoor
end
/- Ga -/
section
namespace Go.Proofs.YtocfcajafkkhdaaDoor
open Go.RowKit

theorem Mu.white {s : ByteArray} {fn args : List UInt8} (h : Mu s fn args) : ∀ k (h : k < (⟨args.toArray⟩ : ByteArray).size), 33 ≤ (⟨args.toArray⟩ : ByteArray)[k].toNat := by
  intro k hk
  have h2 : k < args.length := by rw [← K.bsize] at hk; simpa using hk
  have e : (⟨args.toArray⟩ : ByteArray)[k] = args[k] := rfl
  rw [e]
  exact (h.hargs _ (List.getElem_mem h2)).1
theorem mk_size (l : List UInt8) : (⟨l.toArray⟩ : ByteArray).size = l.length := by rw [← K.bsize]
set_option maxRecDepth 100000 in
theorem ga_yes (s name : ByteArray) (fn args : List UInt8) (w : World) (h : Mu s fn args) (hn : name.size = fn.length) (hN : Nm s name 2) : Calls Tryd.prog 52 #[.string name, .string s] w (SplitPost 44 ⟨args.toArray⟩ w) := by
  have h49 := fa_yes s name fn args w h hn hN
  have h64 := args_any ⟨args.toArray⟩ w (by rw [mk_size]; have := h.size; have := h.len; omega) h.white
  clear h hn hN
  go_enter Tryd.func52, Tryd.ntmps52
  go_wp2_with fail
  with_reducible refine h49.mono ?_
  rintro e w1 ⟨rfl, rfl⟩
  clear h49
  go_wp2_with fail
  with_reducible refine h64.mono ?_
  rintro e w1 ⟨v, rfl, hb, hown⟩
  clear h64
  go_wp2_with fail
  go_ret
  exact ⟨v, rfl, hb, hown⟩
def ValIs (v : Value) (w : World) (e : Ending) (w' : World) : Prop := e = .returned v ∧ w = w'
set_option maxRecDepth 100000 in
theorem ga_no (s name : ByteArray) (fn args : List UInt8) (w : World) (h : Mu s fn args) (hn : name.size ≤ 100) (hN : Not2 s name fn) : Calls Tryd.prog 52 #[.string name, .string s] w (ValIs (.slice none 0 0) w) := by
  have h49 := fa_no s name fn args w h hn hN
  clear h hn hN
  go_enter Tryd.func52, Tryd.ntmps52
  go_wp2_with fail
  with_reducible refine h49.mono ?_
  rintro e w1 ⟨rfl, rfl⟩
  clear h49
  go_wp2_with fail
  go_ret
  exact ⟨rfl, rfl⟩
def SPC : ByteArray := ⟨#[32]⟩
set_option maxRecDepth 100000 in
theorem inset_no (c : UInt8) (w : World) (hc : 33 ≤ c.toNat) : Calls Tryd.prog 74 #[.int .i32 c.toNat, .string ⟨#[32]⟩] w (NonePost (.bool false) w) := by
  have b1 : (((c.toNat : Nat) : Int) == 32) = false := by rw [beq_eq_false_iff_ne]; omega
  obtain ⟨S, hS⟩ : ∃ S : ByteArray, S = ⟨#[32]⟩ := ⟨_, rfl⟩
  have hS1 : S.size = 1 := by rw [hS]; rfl
  have hS0 : ∀ h : 0 < S.size, S[0] = 32 := by intro h; subst hS; rfl
  rw [← hS]
  clear hS
  go_enter Tryd.func74, Tryd.ntmps74
  go_wp2_with fail
  have HS0 := Lib.hid (show (w.iter S 0).heap[w.heap.size]? = some (.stringIter S 0) ∧ Below w.heap.size w (w.iter S 0) ∧ w.heap.size < (w.iter S 0).heap.size from ⟨World.iter_heap w S 0, (Below.refl _ _).alloc (Nat.le_refl _) _, by simp [World.iter]⟩)
  go_loopg [] (2) (fun gk wr => ∃ i : Nat, i ≤ 1 ∧ gk = 2 - i ∧ Hid (wr.heap[w.heap.size]? = some (.stringIter S i) ∧ Below w.heap.size w wr ∧ w.heap.size < wr.heap.size))
  case atStart => exact ⟨0, by omega, by omega, HS0⟩
  case round =>
    obtain ⟨i, hi, hg, HW⟩ := hrel
    by_cases hlt : i < 1
    · obtain rfl : i = 0 := by omega
      have h0 : 0 < S.size := by omega
      have e0 : S[0] = 32 := hS0 h0
      have hnx : ∀ ty, (Instr.next (.pointer (some ⟨w.heap.size, 0, none⟩)) true ty).run Tryd.prog wr = .ok (.tuple #[.bool true, .int .i64 ((0 : Nat) : Int), .int .i32 (32 : UInt8).toNat]) (wr.iterAt w.heap.size S (0 + 1)) := fun ty => by
        have := Lib.run_next_ascii_at (P := Tryd.prog) wr w.heap.size S 0 ty HW.out.1 h0 (by rw [e0]; decide)
        rw [e0] at this
        exact this
      rw [show ((32 : UInt8).toNat : Int) = 32 from rfl] at hnx
      have HV := Lib.hid (show (wr.iterAt w.heap.size S (0 + 1)).heap[w.heap.size]? = some (.stringIter S (0 + 1)) ∧ Below w.heap.size w (wr.iterAt w.heap.size S (0 + 1)) ∧ w.heap.size < (wr.iterAt w.heap.size S (0 + 1)).heap.size from
        ⟨Lib.iterAt_heap wr _ S 0 (0 + 1) HW.out.1, Lib.below_iterAt HW.out.2.1 (Nat.le_refl _) S _, by rw [Lib.iterAt_size]; exact HW.out.2.2⟩)
      clear HW hS0
      go_wp2_with fail
      go_roundg (gk - 1)
      case measure => omega
      case rel => exact ⟨1, by omega, by omega, HV⟩
    · obtain rfl : i = 1 := by omega
      have hnx : ∀ ty, (Instr.next (.pointer (some ⟨w.heap.size, 0, none⟩)) true ty).run Tryd.prog wr = .ok (.tuple #[.bool false]) wr := fun ty => Lib.run_next_end_at wr w.heap.size S 1 ty HW.out.1 (by omega)
      clear hS0
      go_wp2_with fail
      go_ret
      exact ⟨rfl, HW.out.2.1⟩
set_option maxRecDepth 100000 in
theorem trimleft_no (s : ByteArray) (w : World) (h0 : 0 < s.size) (hc : 33 ≤ s[0].toNat) (hc2 : s[0].toNat < 128) : Calls Tryd.prog 66 #[.string s, .string ⟨#[32]⟩] w (NonePost (.string s) w) := by
  have HS0 := Lib.hid (show (w.iter s 0).heap[w.heap.size]? = some (.stringIter s 0) ∧ Below w.heap.size w (w.iter s 0) ∧ w.heap.size < (w.iter s 0).heap.size from ⟨World.iter_heap w s 0, (Below.refl _ _).alloc (Nat.le_refl _) _, by simp [World.iter]⟩)
  go_enter Tryd.func66, Tryd.ntmps66
  go_wp2_with fail
  go_loopg [] (1) (fun gk wr => Hid (wr.heap[w.heap.size]? = some (.stringIter s 0) ∧ Below w.heap.size w wr ∧ w.heap.size < wr.heap.size))
  case atStart => exact HS0
  case round =>
    have HW := hrel
    clear hrel
    have hnx : ∀ ty, (Instr.next (.pointer (some ⟨w.heap.size, 0, none⟩)) true ty).run Tryd.prog wr = .ok (.tuple #[.bool true, .int .i64 ((0 : Nat) : Int), .int .i32 s[0].toNat]) (wr.iterAt w.heap.size s (0 + 1)) := fun ty => Lib.run_next_ascii_at wr w.heap.size s 0 ty HW.out.1 h0 hc2
    have h74 := inset_no s[0] (wr.iterAt w.heap.size s (0 + 1)) hc
    have HV := Lib.hid (show Below w.heap.size w (wr.iterAt w.heap.size s (0 + 1)) ∧ w.heap.size < (wr.iterAt w.heap.size s (0 + 1)).heap.size from
        ⟨Lib.below_iterAt HW.out.2.1 (Nat.le_refl _) s _, by rw [Lib.iterAt_size]; exact HW.out.2.2⟩)
    clear HW HS0
    go_wp2_with fail
    generalize wr.iterAt w.heap.size s (0 + 1) = wv at HV h74 ⊢
    go_wp2_with fail
    with_reducible refine h74.mono ?_
    rintro e w1 ⟨rfl, hb1⟩
    clear h74
    go_wp2_with fail
    go_ret
    exact ⟨rfl, HV.out.1.trans (hb1.mono (Nat.le_of_lt HV.out.2))⟩
set_option maxRecDepth 100000 in
theorem trimright_no (s : ByteArray) (w : World) (hs : s.size ≤ 100000) (h0 : 0 < s.size) (hc : ∀ h : s.size - 1 < s.size, 33 ≤ s[s.size - 1].toNat) : Calls Tryd.prog 65 #[.string s, .string ⟨#[32]⟩] w (NonePost (.string s) w) := by
  obtain ⟨S, hS⟩ : ∃ S : ByteArray, S = ⟨#[32]⟩ := ⟨_, rfl⟩
  have hS1 : S.size = 1 := by rw [hS]; rfl
  have hS0 : ∀ h : 0 < S.size, ((S[0].toNat : Nat) : Int) = 32 := by intro h; subst hS; rfl
  rw [← hS]
  clear hS
  obtain ⟨n, hn⟩ : ∃ n, n + 1 = s.size := ⟨s.size - 1, by omega⟩
  have hn0 : n < s.size := by omega
  have b1 : ((32 : Int) == ((s[n].toNat : Nat) : Int)) = false := by
    have h := hc (by omega)
    have e : s[s.size - 1] = s[n] := by congr 1; omega
    rw [e] at h
    rw [beq_eq_false_iff_ne]; omega
  have hS00 : 0 < S.size := by omega
  have e0 := hS0 hS00
  have b2 : (((S[0].toNat : Nat) : Int) == ((s[n].toNat : Nat) : Int)) = false := by rw [e0]; exact b1
  have b3 : (s.size : Int) - 1 = (n : Int) := by omega
  have b4 : (0 : Int) < (s.size : Int) := by omega
  have HN := Lib.hid hn
  clear hc b1 hn e0 hS0
  go_enter Tryd.func65, Tryd.ntmps65
  go_wp2_with fail
  go_loopg [5] (1) (fun gk v wr => v = .int .i64 s.size ∧ gk = 1 ∧ Hid (Below w.heap.size w wr))
  case atStart => exact ⟨rfl, rfl, Lib.hid (Below.refl _ _)⟩
  case round =>
    obtain ⟨rfl, hgk, HW⟩ := hrel
    go_wp2_with fail
    clear hgk
    go_loopg [6, 7] (2) (fun g2 h k wi => h = .bool false ∧ ∃ i : Nat, i ≤ 1 ∧ g2 = 2 - i ∧ k = .int .i64 i ∧ Hid (Below w.heap.size w wi))
    case atStart => exact ⟨rfl, 0, by omega, by omega, rfl, HW⟩
    case round =>
      obtain ⟨rfl, i, hi, hg2, rfl, HI⟩ := hrel
      by_cases hlt : i < 1
      · obtain rfl : i = 0 := by omega
        have hw : IntKind.i64.wrap ((s.size : Int) - 1) = (n : Int) := by
          rw [b3]
          have := HN.out
          exact IntWalk.i64_in _ (by omega)
        go_wp2_with fail
        go_quiet (fail)
        go_wp2_with fail
        go_roundg (gk - 1)
        case measure => omega
        case rel => exact ⟨rfl, 1, by omega, by omega, by go_num, Lib.hid (HI.out.trans ⟨rfl, rfl, rfl, Nat.le_refl _, fun _ _ => rfl⟩)⟩
      · obtain rfl : i = 1 := by omega
        go_wp2_with fail
        go_ret
        exact ⟨rfl, HI.out⟩
set_option maxRecDepth 100000 in
theorem trim_no (s : ByteArray) (w : World) (hs : s.size ≤ 100000) (h0 : 0 < s.size) (hc : ∀ k (h : k < s.size), 33 ≤ s[k].toNat ∧ s[k].toNat < 128) : Calls Tryd.prog 53 #[.string s, .string ⟨#[32]⟩] w (NonePost (.string s) w) := by
  have h66 := trimleft_no s w h0 (hc 0 h0).1 (hc 0 h0).2
  have h65 := fun w => trimright_no s w hs h0 (fun h => (hc _ h).1)
  clear hc
  go_enter Tryd.func53, Tryd.ntmps53
  go_wp2_with fail
  with_reducible refine h66.mono ?_
  rintro e w1 ⟨rfl, hb1⟩
  clear h66
  go_wp2_with fail
  with_reducible refine (h65 w1).mono ?_
  rintro e w2 ⟨rfl, hb2⟩
  clear h65
  go_wp2_with fail
  go_ret
  exact ⟨rfl, hb1.trans (hb2.mono hb1.size)⟩
set_option maxRecDepth 100000 in
theorem contains_no (s : ByteArray) (c : UInt8) (w : World) (hs : s.size ≤ 100000) (hc : ∀ j : Nat, s.data.toList[j]? ≠ some c) : Calls Tryd.prog 55 #[.string s, .string ⟨#[c]⟩] w (ValIs (.bool false) w) := by
  have h48 := index_any c s w hs
  go_enter Tryd.func55, Tryd.ntmps55
  go_wp2_with fail
  with_reducible refine h48.mono ?_
  rintro e w1 ⟨rfl, ⟨j, hj, hc2, hN, rfl⟩ | ⟨hN, rfl⟩⟩
  · exact (hc j hc2).elim
  · clear h48 hN hc
    go_wp2_with fail
    go_ret
    exact ⟨rfl, rfl⟩
/-- a text of digits -/
theorem Digits.bytes {s : ByteArray} (hd : Digits s.data.toList) : 0 < s.size ∧ ∀ k (h : k < s.size), 33 ≤ s[k].toNat ∧ s[k].toNat < 128 :=
  ⟨hd.first.1, fun k h => by have := hd.2 _ (mem_get h); omega⟩
end Go.Proofs.YtocfcajafkkhdaaDoor
end
/- Dd -/
section
namespace Go.Proofs.YtocfcajafkkhdaaDoor
open Go.RowKit

def dg (n : Nat) : UInt8 := UInt8.ofNat (48 + n % 10)
/-- a number's digits -/
def decs (n : Nat) : List UInt8 := if n < 10 then [dg n] else decs (n / 10) ++ [dg n]
termination_by n
decreasing_by omega
theorem decs_lt {n : Nat} (h : n < 10) : decs n = [dg n] := by rw [decs, if_pos h]
theorem decs_ge {n : Nat} (h : ¬ n < 10) : decs n = decs (n / 10) ++ [dg n] := by rw [decs, if_neg h]
theorem dg_toNat (n : Nat) : (dg n).toNat = 48 + n % 10 := by unfold dg; rw [UInt8.toNat_ofNat']; omega
theorem dg_conv (w : World) (n : Nat) (z : Int) (hz : z = 48 + (n : Int) % 10) : (convert 78 9 (.slice (some ⟨w.heap.size, 0, none⟩) 1 1)).run Tryd.prog (w.alloc (.cells #[.int .u8 z] 5)) = .ok (.string ⟨#[dg n]⟩) (w.alloc (.cells #[.int .u8 z] 5)) := by
  have := run_convert_bytes_back (P := Tryd.prog) (w.alloc (.cells #[.int .u8 z] 5)) 78 9 5 ⟨w.heap.size, 0, none⟩ 1 [dg n] Tryd.underlying78 Tryd.underlying5 Tryd.underlying9 (fun j hj => by
    have hj0 : j = 0 := by simpa using hj
    subst hj0
    rw [Addr.add_lit, new_cell]
    have e : z = ((dg n).toNat : Int) := by rw [dg_toNat, hz]; omega
    simp [e])
  exact this
theorem few {m k n : Nat} (h1 : m * 10 ^ k ≤ n) (h2 : 1 ≤ m ∨ k = 0) (hn : n ≤ 9223372036854775807) : k ≤ 20 := by
  rcases h2 with h2 | h2
  · apply Classical.byContradiction
    intro h
    have h3 : 10 ^ 20 ≤ 10 ^ k := Nat.pow_le_pow_right (by decide) (by omega)
    have h4 : 10 ^ k ≤ m * 10 ^ k := Nat.le_mul_of_pos_left _ h2
    have h5 : (9223372036854775807 : Nat) < 10 ^ 20 := by decide
    omega
  · omega
theorem few_step {m k n : Nat} (h1 : m * 10 ^ k ≤ n) (h9 : 9 < m) : m / 10 * 10 ^ (k + 1) ≤ n ∧ (1 ≤ m / 10 ∨ k + 1 = 0) := by
  refine ⟨Nat.le_trans ?_ h1, .inl (by omega)⟩
  rw [Nat.pow_succ, Nat.mul_comm (10 ^ k) 10, ← Nat.mul_assoc]
  exact Nat.mul_le_mul_right _ (Nat.div_mul_le_self m 10)
set_option maxHeartbeats 1000000 in
set_option maxRecDepth 100000 in
theorem decimal_any (n : Nat) (w : World) (hn : n ≤ 9223372036854775807) : Calls Tryd.prog 25 #[.int .i64 n] w (NonePost (.string ⟨(decs n).toArray⟩) w) := by
  go_enter Tryd.func25, Tryd.ntmps25
  go_wp2_with fail
  go_loopg [0, 3] n (fun gk mv tv wr => ∃ (m : Nat) (t : ByteArray), mv = .int .i64 m ∧ tv = .string t ∧ gk = m ∧ m ≤ n ∧ t.size ≤ 20 ∧ Hid (decs n = decs m ++ t.data.toList ∧ Below w.heap.size w wr ∧ m * 10 ^ t.size ≤ n ∧ (1 ≤ m ∨ t.size = 0)))
  case atStart => exact ⟨n, ⟨#[]⟩, rfl, rfl, rfl, Nat.le_refl _, by show 0 ≤ 20; omega, Lib.hid ⟨by simp, Below.refl _ _, by show n * 10 ^ 0 ≤ n; omega, .inr rfl⟩⟩
  case round =>
    obtain ⟨m, t, rfl, rfl, hg, hmn, ht, H⟩ := hrel
    by_cases h9 : 9 < m
    · have hcv := dg_conv wr m (48 + (m : Int) % 10) rfl
      have hs1 : (⟨#[dg m]⟩ : ByteArray).size = 1 := rfl
      obtain ⟨sd, hsd⟩ : ∃ sd : ByteArray, (⟨#[dg m]⟩ : ByteArray) = sd := ⟨_, rfl⟩
      rw [hsd] at hcv hs1
      have HD := Lib.hid hsd
      clear hsd
      go_wp2_with fail
      go_roundg (m / 10)
      case measure => omega
      case rel =>
        have hst := few_step H.out.2.2.1 h9
        have hsz : (sd ++ t).size = t.size + 1 := by rw [ByteArray.size_append]; omega
        refine ⟨m / 10, sd ++ t, by go_num, rfl, rfl, by omega, by rw [hsz]; exact few hst.1 hst.2 hn, Lib.hid ⟨?_, H.out.2.1.alloc H.out.2.1.size _, by rw [hsz]; exact hst.1, by rw [hsz]; exact hst.2⟩⟩
        rw [H.out.1, decs_ge (n := m) (by omega), ← HD.out]
        simp
    · have hcv := dg_conv wr m (48 + (m : Int)) (by omega)
      have hs1 : (⟨#[dg m]⟩ : ByteArray).size = 1 := rfl
      obtain ⟨sd, hsd⟩ : ∃ sd : ByteArray, (⟨#[dg m]⟩ : ByteArray) = sd := ⟨_, rfl⟩
      rw [hsd] at hcv hs1
      have HD := Lib.hid hsd
      clear hsd
      go_wp2_with fail
      go_ret
      refine ⟨?_, H.out.2.1.alloc H.out.2.1.size _⟩
      have e : (sd ++ t) = ⟨(decs n).toArray⟩ := by
        apply ByteArray.ext
        apply Array.ext'
        rw [H.out.1, decs_lt (n := m) (by omega), ← HD.out]
        simp
      rw [e]
      rfl
end Go.Proofs.YtocfcajafkkhdaaDoor
end
/- Vm -/
section
namespace Go.Proofs.YtocfcajafkkhdaaDoor
open Go.RowKit

/-- a plain token -/
def Pl (t : List UInt8) : Prop := (∃ c r, t = c :: r ∧ c ≠ 123 ∧ c ≠ 62) ∧ ∀ x ∈ t, 33 ≤ x.toNat ∧ x.toNat < 128
def NilPost (w : World) (e : Ending) (w' : World) : Prop := e = .returned .nilIface ∧ Below w.heap.size w w'
/-- a pointer and no error -/
def PtrPost (w : World) (e : Ending) (w' : World) : Prop := ∃ p, e = .returned (.tuple #[.pointer (some ⟨p, 0, none⟩), .nilIface]) ∧ Below w.heap.size w w'
theorem first_of' {tb : ByteArray} {c : UInt8} {r : List UInt8} (h : tb.data.toList = c :: r) : ∃ h0 : 0 < tb.size, tb[0] = c := by
  have h0 : 0 < tb.size := by rw [← K.bsize, h]; simp
  refine ⟨h0, ?_⟩
  have := get_at h0
  rw [h] at this
  simpa using this.symm
theorem sv_bytes' (t : List UInt8) : ∃ tb : ByteArray, sv t = .string tb ∧ tb.data.toList = t ∧ tb.size = t.length := ⟨⟨t.toArray⟩, rfl, rfl, bs_size t⟩
theorem spaces_none (tb : ByteArray) (w : World) (hs : tb.size ≤ 100000) (h : ∀ x ∈ tb.data.toList, 33 ≤ x.toNat ∧ x.toNat < 128) : Calls Tryd.prog 36 #[.string tb, .string ⟨#[9, 10, 12, 13, 32]⟩] w (NonePost (.bool false) w) := by
  have hm : ∀ i (hi : i < tb.size), 33 ≤ tb[i].toNat ∧ tb[i].toNat < 128 := fun i hi => h _ (List.mem_of_getElem? (get_at hi))
  have hch : ∀ i (hi : i < (⟨#[9, 10, 12, 13, 32]⟩ : ByteArray).size), (⟨#[9, 10, 12, 13, 32]⟩ : ByteArray)[i].toNat < 33 := by decide
  refine any_none tb _ w hs (by decide) (fun i hi => (hm i hi).2) (fun i hi => by have := hch i hi; omega) (fun i hi j hj e => ?_)
  have h1 := (hm i hi).1
  have h2 := hch j hj
  rw [e] at h1
  omega
set_option maxHeartbeats 8000000 in
set_option maxRecDepth 100000 in
theorem validate_plain (src dest : ByteArray) (D : List (List UInt8)) (w : World) (hd : dest.size ≤ 100000) (hD : sp 46 dest.data.toList = D) (tD : Toks D) (hpl : ∀ t ∈ D, t = [62] ∨ Pl t) (hDl : ∀ t ∈ D, t.length ≤ 1000)
    (hnt : ∀ w', Below w.heap.size w w' → Calls Tryd.prog 37 #[.string src, .string dest] w' (PtrPost w')) : Calls Tryd.prog 24 #[.string src, .string dest] w (NilPost w) := by
  have h34 := split_any 46 dest w hd
  unfold SplitPost at h34
  rw [hD] at h34
  have hlD := sp_length 46 dest.data.toList
  rw [hD, K.bsize] at hlD
  have e1 : dest.toList.isEmpty = false := by
    rw [ByteArray.toList_eq, List.isEmpty_eq_false_iff]
    intro e
    rw [e] at hD
    have := tD.1 [] (by rw [← hD]; simp [sp])
    exact this rfl
  have HH := Lib.hid (And.intro tD (And.intro hpl (And.intro hDl hnt)))
  clear hD tD hpl hDl hnt
  go_enter Tryd.func24, Tryd.ntmps24
  go_wp2_with fail
  refine h34.mono ?_
  rintro e w1 ⟨v, rfl, hb1, hown⟩
  clear h34
  obtain ⟨A, cap, rfl, hnc, _, hA, _⟩ := K.lies_of_own hown
  have HA := Lib.hid (And.intro hA hb1)
  have hsz := hb1.size
  clear hown hA hb1
  go_wp2_with fail
  go_loopg [5, 16] (D.length) (fun gk f i wr => ∃ k : Nat, gk + k = D.length ∧ i = .int .i64 k ∧ f = .bool (fwc (D.take k)) ∧ Hid (Below w1.heap.size w1 wr))
  case atStart => exact ⟨0, by omega, rfl, rfl, Lib.hid (Below.refl _ _)⟩
  case round =>
    obtain ⟨k, hgk, rfl, rfl, HB⟩ := hrel
    by_cases hlt : k < D.length
    · obtain ⟨ab, ao, rfl, hab, hcs⟩ := HA.out.1 (by omega)
      have c1 : wr.cell? ⟨ab, ao + k, none⟩ = some (sv (D.getD k [])) := by
        refine (HB.out.cell (p := ⟨ab, ao + k, none⟩) hab).trans ((hcs k hlt).trans ?_)
        simp [List.getD, hlt]
      have hsp : D = D.take k ++ D.getD k [] :: D.drop (k + 1) := by
        conv => lhs; rw [← List.take_append_drop k D, List.drop_eq_getElem_cons hlt]
        simp [List.getD, hlt]
      have hno := HH.out.1.no hsp
      have hf := fwc_snoc (D.take k) (D.getD k [])
      rw [show D.take k ++ [D.getD k []] = D.take (k + 1) from by rw [List.take_succ_eq_append_getElem hlt]; simp [List.getD, hlt], hno, Bool.false_or] at hf
      have hp := HH.out.2.1 (D.getD k []) (by simp [List.getD, hlt])
      have hlen := HH.out.2.2.1 (D.getD k []) (by simp [List.getD, hlt])
      rw [hno]
      clear hsp hcs hno
      generalize D.getD k [] = t at c1 hf hp hlen
      have HF := Lib.hid hf
      have HGK := Lib.hid hgk
      clear hf hgk
      rcases hp with rfl | hp
      · have c2 : wr.cell? ⟨ab, ao + k, none⟩ = some (.string ⟨#[62]⟩) := c1
        clear c1
        go_wp2_with fail
        go_roundg (gk - 1)
        case measure => have := HGK.out; omega
        case rel => exact ⟨k + 1, by have := HGK.out; omega, by go_num, by rw [HF.out]; rfl, HB⟩
      · obtain ⟨⟨c, r, htr, n123, n62⟩, hg⟩ := hp
        obtain ⟨tb, htb, htl, hts⟩ := sv_bytes' t
        rw [htb] at c1
        obtain ⟨p0, p1⟩ := first_of' (htl.trans htr)
        have z0 : ((tb.size : Int) == 0) = false := by rw [beq_eq_false_iff_ne]; omega
        have b123 : (((tb[0].toNat : Nat) : Int) == 123) = false := ne_int (show tb[0] ≠ 123 from by rw [p1]; exact n123)
        have b62 : (((tb[0].toNat : Nat) : Int) == 62) = false := ne_int (show tb[0] ≠ 62 from by rw [p1]; exact n62)
        have htsz : tb.size ≤ 100000 := by omega
        have h36 := fun w => spaces_none tb w htsz (by rw [htl]; exact hg)
        have hne : (t == [62]) = false := by rw [beq_eq_false_iff_ne, htr]; intro e; injection e with e _; exact n62 e
        have HNE := Lib.hid hne
        clear htb htl hts htr p1 n123 n62 hg hne hlen
        by_cases h1 : tb.size = 1
        · have z1 : ((tb.size : Int) == 1) = true := by rw [h1]; rfl
          have z4 : ¬ (4 : Int) < (tb.size : Int) := by omega
          clear h1
          go_wp2_with fail
          refine (h36 _).mono ?_
          rintro e w2 ⟨rfl, hb2⟩
          have HB2 := Lib.hid (HB.out.trans (hb2.mono HB.out.size))
          clear hb2
          go_wp2_with fail
          go_roundg (gk - 1)
          case measure => have := HGK.out; omega
          case rel => exact ⟨k + 1, by have := HGK.out; omega, by go_num, by rw [HF.out, HNE.out], HB2⟩
        · have z1 : ((tb.size : Int) == 1) = false := by rw [beq_eq_false_iff_ne]; omega
          clear h1
          go_wp2_with fail
          all_goals
            refine (h36 _).mono ?_
            rintro e w2 ⟨rfl, hb2⟩
            have HB2 := Lib.hid (HB.out.trans (hb2.mono HB.out.size))
            clear hb2
            go_wp2_with fail
            go_roundg (gk - 1)
            case measure => have := HGK.out; omega
            case rel => exact ⟨k + 1, by have := HGK.out; omega, by go_num, by rw [HF.out, HNE.out], HB2⟩
    · have hbw : Below w.heap.size w wr := HA.out.2.trans (HB.out.mono hsz)
      have h37 := HH.out.2.2.2 wr hbw
      have HW := Lib.hid hbw
      clear hbw
      go_wp2_with fail
      refine h37.mono ?_
      rintro e w2 ⟨p, rfl, hb2⟩
      have HB2 := Lib.hid (HW.out.trans (hb2.mono HW.out.size))
      clear hb2 h37
      go_wp2_with fail
      go_ret
      exact ⟨rfl, HB2.out⟩
def ValidPost (w : World) (e : Ending) (w' : World) : Prop := e = .returned (.bool true) ∧ Below w.heap.size w w'
set_option maxRecDepth 100000 in
theorem validMapping_any (src dest : ByteArray) (w : World) (h : Calls Tryd.prog 24 #[.string src, .string dest] w (NilPost w)) : Calls Tryd.prog 12 #[.string src, .string dest] w (ValidPost w) := by
  go_enter Tryd.func12, Tryd.ntmps12
  go_wp2_with fail
  refine h.mono ?_
  rintro e w1 ⟨rfl, hb⟩
  clear h
  go_wp2_with fail
  go_ret
  exact ⟨rfl, hb⟩
end Go.Proofs.YtocfcajafkkhdaaDoor
end
