/-
  The reference's Tokens and Subject.
-/
import Derived.Test.YtocfcajafkkhdaaDoorMm
namespace Go.Proofs.YtocfcajafkkhdaaDoor
open Go.RowKit

theorem sp_snoc (c x : UInt8) : ∀ (l : List UInt8) (ds : List (List UInt8)) (tk : List UInt8), sp c l = ds ++ [tk] → sp c (l ++ [x]) = if x = c then ds ++ [tk] ++ [[]] else ds ++ [tk ++ [x]]
  | [], ds, tk, h => by
    have h0 : ds = [] ∧ tk = [] := by
      simp only [sp] at h
      cases ds with
      | nil => simpa using h.symm
      | cons a r => simp at h
    obtain ⟨rfl, rfl⟩ := h0
    simp only [List.nil_append, sp]
    split <;> rfl
  | y :: l, ds, tk, h => by
    rw [List.cons_append, sp_cons]
    rw [sp_cons] at h
    by_cases hy : y = c
    · rw [if_pos hy] at h ⊢
      cases ds with
      | nil =>
        simp at h
        exact absurd h.2 (sp_ne c l)
      | cons a r =>
        simp only [List.cons_append, List.cons.injEq] at h
        have ih := sp_snoc c x l r tk h.2
        rw [ih, ← h.1]
        split <;> simp
    · rw [if_neg hy] at h ⊢
      cases hs : sp c l with
      | nil => exact absurd hs (sp_ne c l)
      | cons t ts =>
        rw [hs] at h
        simp only at h
        cases ds with
        | nil =>
          simp only [List.nil_append, List.cons.injEq] at h
          obtain ⟨h1, h2⟩ := h
          subst h2
          have ih := sp_snoc c x l [] t (by rw [hs]; rfl)
          rw [ih, ← h1]
          by_cases hx : x = c
          · rw [if_pos hx, if_pos hx]; rfl
          · rw [if_neg hx, if_neg hx]; rfl
        | cons a r =>
          simp only [List.cons_append, List.cons.injEq] at h
          obtain ⟨h1, h2⟩ := h
          have ih := sp_snoc c x l (t :: r) tk (by rw [hs, h2]; rfl)
          rw [ih, ← h1]
          by_cases hx : x = c
          · rw [if_pos hx, if_pos hx]; rfl
          · rw [if_neg hx, if_neg hx]; rfl
theorem sp_small (c : UInt8) (s : List UInt8) : ∀ t ∈ sp c s, t.length ≤ s.length := by
  induction s with
  | nil => intro t h; simp [sp] at h; rw [h]; simp
  | cons x r ih =>
    intro t h
    rw [sp_cons] at h
    split at h
    · rcases List.mem_cons.1 h with rfl | h
      · simp
      · have := ih t h; simp; omega
    · split at h
      · simp at h; rw [h]; simp
      · next t0 ts hs =>
        rw [hs] at ih
        rcases List.mem_cons.1 h with rfl | h
        · have := ih t0 (by simp); simp; omega
        · have := ih t (by simp [h]); simp; omega
theorem wpList_app_big {ops : Array Oper} {rest : List Oper} {o : Oper} {a : Act} {w : World} {Q : Exit → Act → World → Prop} (hgd : o.guard = none) (s x : Operand) (ho : o.op = .call { callee := .builtin .append, args := #[s, x], argTypes := #[22, 22] })
    (base : Nat) (v : Value) (n : Nat) (xs : List Value) (hs : a.eval s = v) (hown : w.ownsRow base 9 1 v n xs) (g c : Nat) (t : ByteArray) (hx : a.eval x = .slice (some ⟨g, 0, none⟩) 1 c) (hc : w.cell? ⟨g, 0, none⟩ = some (.string t))
    (hn : n ≤ 4294967296) (hbase : base ≤ w.heap.size) (h : ∀ v' w', w'.ownsRow base 9 1 v' (n + 1) (xs ++ [.string t]) → w.grownBy w' v.ownBlock → wpList Tryd.prog ops Q rest (a.put o.dst v') w') : wpList Tryd.prog ops Q (o :: rest) a w := by
  obtain ⟨i0, hi0, hz0, hz1, hz2⟩ := info_parts info9
  refine wpList_append_own _ hgd s x 22 ho base 9 i0 (.string ByteArray.empty) 1 16 Tryd.underlying22 hi0 hz0 hz1 hz2 rfl (by decide) v n xs hs hown ⟨g, 0, none⟩ 1 c [.string t] hx rfl ?_ (by intro u hu; simp at hu; subst hu; rfl) (by unfold maxLen; omega) (by omega) hbase (fun v' w' h1 h2 _ => h v' w' h1 h2)
  intro j u hj
  match j, hj with
  | 0, hj =>
    simp at hj
    subst hj
    rw [Addr.add_lit]
    exact hc
def TokenRel (s : ByteArray) (w wr : World) (k n : Nat) (v : Value) (tk : ByteArray) : Prop :=
  ∃ ds : List (List UInt8), ds.length = n ∧ sp 46 (s.data.toList.take k) = ds ++ [tk.data.toList] ∧ wr.ownsRow w.heap.size 9 1 v n (ds.map sv) ∧ Below w.heap.size w wr
theorem take_succ_at (s : ByteArray) (k : Nat) (h : k < s.size) : s.data.toList.take (k + 1) = s.data.toList.take k ++ [s[k]] := by
  rw [List.take_succ_eq_append_getElem (by simpa using h)]; rfl
def TokensPost (s : ByteArray) (w : World) (e : Ending) (w' : World) : Prop := ∃ v, e = .returned v ∧ Below w.heap.size w w' ∧ w'.ownsRow w.heap.size 9 1 v (sp 46 s.data.toList).length ((sp 46 s.data.toList).map sv)
set_option maxHeartbeats 4000000 in
set_option maxRecDepth 100000 in
theorem tokens_any (s : ByteArray) (w : World) (hs : s.size ≤ 2147483647) : Calls Tryd.prog 14 #[.string s] w (TokensPost s w) := by
  go_enter Tryd.func14, Tryd.ntmps14
  go_wp2_with fail
  go_loopg [3, 4, 5] (s.size + 1) (fun gk v t i wr => ∃ (k n : Nat) (tk : ByteArray), k ≤ s.size ∧ n ≤ k ∧ tk.size ≤ k ∧ gk = s.size + 1 - k ∧ i = .int .i64 k ∧ t = .string tk ∧ Hid (TokenRel s w wr k n v tk))
  case atStart => exact ⟨0, 0, ⟨#[]⟩, by omega, by omega, Nat.le_refl 0, by omega, rfl, rfl, Lib.hid ⟨[], rfl, by simp [sp], World.ownsRow_nil _ _ _ _, Below.refl _ _⟩⟩
  case round =>
    obtain ⟨k, n, tk, hk, hn, htk, hg, rfl, rfl, HT⟩ := hrel
    by_cases hlt : k < s.size
    · have b0 : (0 : Int) ≤ (k : Int) := by omega
      have b1 : (k : Int) ≤ (k : Int) + 1 := by omega
      have b2 : (k : Int) + 1 ≤ (s.size : Int) := by omega
      have htake := take_succ_at s k hlt
      obtain ⟨ds, h1, h2, h3, h4⟩ := HT.out
      have hsn := sp_snoc 46 s[k] _ _ _ h2
      rw [← htake] at hsn
      have HD := Lib.hid (And.intro h1 (And.intro h3 h4))
      have HSN := Lib.hid hsn
      have hsz := h4.size
      clear h1 h2 h3 h4 hsn htake
      by_cases hc : s[k] = 46
      · have e46 : ((s[k].toNat : Nat) : Int) = 46 := congrArg (fun c : UInt8 => ((c.toNat : Nat) : Int)) hc
        have HC := Lib.hid hc
        clear hc
        go_wp2_with (at_builtin; refine wpList_app_big rfl (.tmp 16) (.tmp 18) rfl w.heap.size _ _ _ rfl (HD.out.2.1.alloc _) _ _ _ rfl (new_cell _ _ _) (by omega) (by simp; omega) ?_; intro v1 w2 hown1 hgrow1)
        have hb1 : Below w.heap.size w w2 := (HD.out.2.2.alloc hsz _).grown hgrow1 (by simp; omega) (fun j hj => (HD.out.2.1.lt j hj).1)
        have HT2 := Lib.hid (show TokenRel s w w2 (k + 1) (n + 1) v1 ⟨#[]⟩ from ⟨ds ++ [tk.data.toList], by simp [HD.out.1], by rw [HSN.out, if_pos HC.out], by rw [List.map_append, List.map_cons, List.map_nil, sv_of]; exact hown1, hb1⟩)
        clear hown1 hgrow1 hb1
        go_wp2_with fail
        go_roundg (gk - 1)
        case measure => omega
        case rel => exact ⟨k + 1, n + 1, ⟨#[]⟩, by omega, by omega, Nat.zero_le _, by omega, by go_num, rfl, HT2⟩
      · have b46 : (((s[k].toNat : Nat) : Int) == 46) = false := ne_int hc
        have m46 : ¬ ((s[k].toNat : Nat) : Int) = 46 := by simpa using b46
        have HC := Lib.hid hc
        clear hc
        have e1 := ext1 s k hlt
        have hsz2 : (tk ++ s.extract k (k + 1)).size = tk.size + 1 := by rw [ByteArray.size_append, e1]; rfl
        have HT2 := Lib.hid (show TokenRel s w wr (k + 1) n u3 (tk ++ s.extract k (k + 1)) from ⟨ds, HD.out.1, by rw [HSN.out, if_neg HC.out, e1, K.bapp], HD.out.2.1, HD.out.2.2⟩)
        have HE := Lib.hid (And.intro e1 hsz2)
        clear e1 hsz2
        go_wp2_with fail
        go_roundg (gk - 1)
        case measure => omega
        case rel => exact ⟨k + 1, n, tk ++ s.extract k (k + 1), by omega, by omega, by rw [HE.out.2]; omega, by omega, by go_num, rfl, HT2⟩
    · obtain rfl : k = s.size := by omega
      obtain ⟨ds, h1, h2, h3, h4⟩ := HT.out
      rw [List.take_of_length_le (by rw [K.bsize]; exact Nat.le_refl _)] at h2
      have HD := Lib.hid (And.intro h1 (And.intro h2 (And.intro h3 h4)))
      have hsz := h4.size
      clear h1 h2 h3 h4
      go_wp2_with (at_builtin; refine wpList_app_big rfl (.tmp 27) (.tmp 29) rfl w.heap.size _ _ _ rfl (HD.out.2.2.1.alloc _) _ _ _ rfl (new_cell _ _ _) (by omega) (by simp; omega) ?_; intro v1 w2 hown1 hgrow1)
      have hb1 : Below w.heap.size w w2 := (HD.out.2.2.2.alloc hsz _).grown hgrow1 (by simp; omega) (fun j hj => (HD.out.2.2.1.lt j hj).1)
      go_ret
      refine ⟨v1, rfl, hb1, ?_⟩
      rw [HD.out.2.1, List.length_append, List.length_singleton, HD.out.1, List.map_append, List.map_cons, List.map_nil, sv_of]
      exact hown1

/-- a letter or a digit -/
def ld (x : UInt8) : Prop := (97 ≤ x.toNat ∧ x.toNat ≤ 122) ∨ (48 ≤ x.toNat ∧ x.toNat ≤ 57)
/-- a subject: at most six tokens of one to eight letters and digits -/
def Good (l : List UInt8) : Prop := (sp 46 l).length ≤ 6 ∧ ∀ t ∈ sp 46 l, t ≠ [] ∧ t.length ≤ 8 ∧ ∀ x ∈ t, ld x
def SubjPost (s : ByteArray) (w : World) (e : Ending) (w' : World) : Prop := ∃ b : Bool, e = .returned (.bool b) ∧ Below w.heap.size w w' ∧ (b = true → Good s.data.toList)
theorem SubjPost.no {s : ByteArray} {w w' : World} (h : Below w.heap.size w w') : SubjPost s w (.returned (.bool false)) w' := ⟨false, rfl, h, fun h => by cases h⟩
def SjRel (l : List (List UInt8)) (k : Nat) : Prop := ∀ t ∈ l.take k, t ≠ [] ∧ t.length ≤ 8 ∧ ∀ x ∈ t, ld x
set_option maxHeartbeats 8000000 in
set_option maxRecDepth 100000 in
theorem subj_any (s : ByteArray) (w : World) (hs : s.size ≤ 2147483647) : Calls Tryd.prog 13 #[.string s, .bool false] w (SubjPost s w) := by
  have h14 := tokens_any s w hs
  have hl := sp_length 46 s.data.toList
  rw [K.bsize] at hl
  have hsm := sp_small 46 s.data.toList
  rw [K.bsize] at hsm
  generalize hL : sp 46 s.data.toList = L at hl hsm
  have HL := Lib.hid hL
  have HSM := Lib.hid hsm
  unfold TokensPost at h14
  rw [hL] at h14
  clear hL hsm
  go_enter Tryd.func13, Tryd.ntmps13
  go_wp2_with fail
  refine h14.mono ?_
  rintro e w1 ⟨v, rfl, hb, hown⟩
  clear h14
  obtain ⟨A, cap, rfl, hnc, _, hA, _⟩ := K.lies_of_own hown
  have HA := Lib.hid (And.intro hA hb)
  clear hown hA hb
  go_wp2_with fail
  go_loop [6] (fun i => ∃ k : Nat, k ≤ L.length ∧ i = .int .i64 k ∧ Hid (SjRel L k)) (fun i => L.length - (intOf i).toNat)
  case atStart => exact ⟨0, by omega, rfl, Lib.hid (fun t ht => by simp at ht)⟩
  case round =>
    obtain ⟨k, hk, rfl, HR⟩ := hrel
    by_cases hlt : k < L.length
    · obtain ⟨ab, ao, rfl, hab, hcs⟩ := HA.out.1 (by omega)
      have c1 : w1.cell? ⟨ab, ao + k, none⟩ = some (sv (L.getD k [])) := by
        refine (hcs k hlt).trans ?_
        simp [List.getD, hlt]
      have hts := HSM.out (L.getD k []) (by simp [List.getD, hlt])
      have hkk : L.take (k + 1) = L.take k ++ [L.getD k []] := by
        rw [List.take_succ_eq_append_getElem hlt]; simp [List.getD, hlt]
      have HKK := Lib.hid hkk
      clear hcs hkk
      generalize L.getD k [] = t at c1 hts HKK
      obtain ⟨tb, htb, htl, hsz⟩ : ∃ tb : ByteArray, sv t = .string tb ∧ tb.data.toList = t ∧ tb.size = t.length := ⟨⟨t.toArray⟩, rfl, rfl, bs_size t⟩
      rw [htb] at c1
      have htz : tb.size ≤ 2147483647 := by omega
      have HTL := Lib.hid (And.intro htl hsz)
      clear htb htl hsz hts
      by_cases he : tb.size = 0
      · have em : tb.toList.isEmpty = true := by
          rw [ByteArray.toList_eq, List.isEmpty_iff]
          exact List.eq_nil_of_length_eq_zero (by rw [K.bsize]; exact he)
        clear he
        go_wp2_with fail
        all_goals
          go_ret
          exact SubjPost.no HA.out.2
      · have em : tb.toList.isEmpty = false := by
          rw [ByteArray.toList_eq, List.isEmpty_eq_false_iff]
          intro e
          have := K.bsize tb
          rw [e] at this
          simp at this
          omega
        by_cases h8 : 8 < tb.size
        · go_wp2_with fail
          all_goals
            go_ret
            exact SubjPost.no HA.out.2
        · have HE := Lib.hid (And.intro he h8)
          have h8' : (tb.size : Int) ≤ 8 := by omega
          have h8n : tb.size ≤ 8 := by omega
          clear he h8
          go_wp2_with fail
          go_loop [8] (fun i => ∃ q : Nat, q ≤ tb.size ∧ i = .int .i64 q ∧ Hid (∀ j (hj : j < tb.size), j < q → ld tb[j])) (fun i => tb.size - (intOf i).toNat)
          case atStart => exact ⟨0, by omega, rfl, Lib.hid (fun j hj h => by omega)⟩
          case round =>
            obtain ⟨q, hq, rfl, HQ⟩ := hrel
            by_cases hlt2 : q < tb.size
            · by_cases hld : ld tb[q]
              · have HQ2 := Lib.hid (show ∀ j (hj : j < tb.size), j < q + 1 → ld tb[j] from fun j hj h => by
                  rcases Nat.lt_or_ge j q with h2 | h2
                  · exact HQ.out j hj h2
                  · obtain rfl : j = q := by omega
                    exact hld)
                rcases hld with ⟨l1, l2⟩ | ⟨l1, l2⟩
                · have b1 : ¬ ((tb[q].toNat : Nat) : Int) < 97 := by omega
                  have b2 : ¬ (122 : Int) < ((tb[q].toNat : Nat) : Int) := by omega
                  go_wp2_with fail
                  go_round
                  case rel => exact ⟨q + 1, by omega, by go_num, HQ2⟩
                  case measure => simp [intOf]; omega
                · have b1 : ((tb[q].toNat : Nat) : Int) < 97 := by omega
                  have b2 : ¬ ((tb[q].toNat : Nat) : Int) < 48 := by omega
                  have b3 : ¬ (57 : Int) < ((tb[q].toNat : Nat) : Int) := by omega
                  go_wp2_with fail
                  go_round
                  case rel => exact ⟨q + 1, by omega, by go_num, HQ2⟩
                  case measure => simp [intOf]; omega
              · unfold ld at hld
                have hd : tb[q].toNat < 48 ∨ (57 < tb[q].toNat ∧ tb[q].toNat < 97) ∨ 122 < tb[q].toNat := by omega
                clear hld
                rcases hd with d1 | ⟨d1, d2⟩ | d1
                · have b1 : ((tb[q].toNat : Nat) : Int) < 97 := by omega
                  have b2 : ((tb[q].toNat : Nat) : Int) < 48 := by omega
                  go_wp2_with fail
                  go_ret
                  exact SubjPost.no HA.out.2
                · have b1 : ((tb[q].toNat : Nat) : Int) < 97 := by omega
                  have b2 : (57 : Int) < ((tb[q].toNat : Nat) : Int) := by omega
                  have b3 : ¬ ((tb[q].toNat : Nat) : Int) < 48 := by omega
                  go_wp2_with fail
                  go_ret
                  exact SubjPost.no HA.out.2
                · have b1 : ¬ ((tb[q].toNat : Nat) : Int) < 97 := by omega
                  have b2 : (122 : Int) < ((tb[q].toNat : Nat) : Int) := by omega
                  have b3 : (57 : Int) < ((tb[q].toNat : Nat) : Int) := by omega
                  have b4 : ¬ ((tb[q].toNat : Nat) : Int) < 48 := by omega
                  go_wp2_with fail
                  go_ret
                  exact SubjPost.no HA.out.2
            · have HN := Lib.hid (show SjRel L (k + 1) from by
                intro u hu
                rw [HKK.out] at hu
                rcases List.mem_append.1 hu with hu | hu
                · exact HR.out u hu
                · obtain rfl : u = t := by simpa using hu
                  refine ⟨fun e => HE.out.1 (by rw [HTL.out.2, e]; rfl), by rw [← HTL.out.2]; exact h8n, fun x hx => ?_⟩
                  rw [← HTL.out.1] at hx
                  obtain ⟨j, hj, rfl⟩ := List.mem_iff_getElem.1 hx
                  have hj2 : j < tb.size := by rwa [K.bsize] at hj
                  exact HQ.out j hj2 (by omega))
              go_wp2_with fail
              go_round
              case rel => exact ⟨k + 1, by omega, by go_num, HN⟩
              case measure => simp [intOf]; omega
    · obtain rfl : k = L.length := by omega
      by_cases h6 : L.length ≤ 6
      · have h6' : decide ((L.length : Int) ≤ 6) = true := by rw [decide_eq_true_eq]; omega
        go_wp2_with fail
        go_ret
        refine ⟨true, ?_, HA.out.2, fun _ => ?_⟩
        · first | rfl | (rw [h6'])
        · unfold Good
          rw [HL.out]
          refine ⟨h6, fun t ht => HR.out t ?_⟩
          rw [List.take_length]; exact ht
      · have h6' : decide ((L.length : Int) ≤ 6) = false := by rw [decide_eq_false_iff_not]; omega
        go_wp2_with fail
        go_ret
        refine ⟨false, ?_, HA.out.2, fun h => by cases h⟩
        first | rfl | (rw [h6'])
end Go.Proofs.YtocfcajafkkhdaaDoor
