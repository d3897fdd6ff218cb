/-
  A piece's text, and what indexPlaceHolders makes of it (plain, but for that call). Printed by wip/py/gen_pa.py.
  The plain law: what a mapping that is built is to the package.
  The plain law, joined: impl.Map and impl.ValidMapping of a mapping that is built.
  The plain law, joined: what a mapping that is built maps to.
-/
import Derived.Test.YtocfcajafkkhdaaDoorZSz
import Derived.Test.YtocfcajafkkhdaaDoorZIn
/- Pa -/
section
namespace Go.Proofs.YtocfcajafkkhdaaDoor
open Go.RowKit

theorem dec_decs : ∀ (k n : Nat), n < 10 ^ (k + 1) → dec (decs n) = n
  | 0, n, h => by
    have h1 : n < 10 := by simpa using h
    rw [decs_lt h1]
    show 0 * 10 + ((dg n).toNat - 48) = n
    rw [dg_toNat]; omega
  | k + 1, n, h => by
    by_cases h10 : n < 10
    · rw [decs_lt h10]
      show 0 * 10 + ((dg n).toNat - 48) = n
      rw [dg_toNat]; omega
    · have ih := dec_decs k (n / 10) (by rw [Nat.div_lt_iff_lt_mul (by omega), ← Nat.pow_succ]; exact h)
      rw [decs_ge h10, dec_snoc, ih, dg_toNat]
      omega
theorem decs_dig : ∀ (k n : Nat), n < 10 ^ (k + 1) → ∀ c ∈ decs n, 48 ≤ c.toNat ∧ c.toNat ≤ 57
  | 0, n, h => by
    have h1 : n < 10 := by simpa using h
    rw [decs_lt h1]
    intro c hc
    obtain rfl := List.mem_singleton.1 hc
    rw [dg_toNat]; omega
  | k + 1, n, h => by
    by_cases h10 : n < 10
    · rw [decs_lt h10]
      intro c hc
      obtain rfl := List.mem_singleton.1 hc
      rw [dg_toNat]; omega
    · have ih := decs_dig k (n / 10) (by rw [Nat.div_lt_iff_lt_mul (by omega), ← Nat.pow_succ]; exact h)
      rw [decs_ge h10]
      intro c hc
      rcases List.mem_append.1 hc with hc | hc
      · exact ih c hc
      · obtain rfl := List.mem_singleton.1 hc
        rw [dg_toNat]; omega
theorem decs_ne (n : Nat) : decs n ≠ [] := by
  by_cases h : n < 10
  · rw [decs_lt h]; simp
  · rw [decs_ge h]; simp
/-- a small number's digits -/
structure Dg (n : Nat) : Prop where
  d : Digits (decs n)
  v : dec (decs n) = n
  l : (decs n).length ≤ 4
  c : ∀ x ∈ decs n, 48 ≤ x.toNat ∧ x.toNat ≤ 57
  n44 : (44 : UInt8) ∉ decs n
theorem dg_of {n : Nat} (h : n ≤ 1000) : Dg n := by
  have h1 : n < 10 ^ (3 + 1) := Nat.lt_of_le_of_lt h (by decide)
  have hc := decs_dig 3 n h1
  exact ⟨⟨decs_ne n, hc⟩, dec_decs 3 n h1, decs_len 3 n h1, hc, fun h => by have := hc _ h; revert this; decide⟩
/-- what a piece is to indexPlaceHolders -/
def knOf (p : Pi) : Kn :=
  if p.fn = 0 then Kn.no else if p.fn = 1 ∨ p.fn = 2 then Kn.wild (nat p.at_) else if p.fn = 3 then Kn.part (nat p.n) (p.all.map nat) else if p.fn = 4 then Kn.cut (nat p.at_) p.word
  else Kn.two (if p.fn ≤ 8 then p.fn - 1 else p.fn) (nat p.at_) (nat p.n)
structure PieceOk (p : Pi) : Prop where
  call : ∀ w, Calls Tryd.prog 39 #[sv (written p)] w (PhPost (knOf p) w)
  n46 : (46 : UInt8) ∉ written p
  form : Pl (written p) ∨ MuT (written p)
  n42 : written p ≠ [42]
  n62 : written p ≠ [62]
  n0 : written p ≠ []
  len : (written p).length ≤ 1000
theorem wc_ne {x : UInt8} (h : wc x) : x ≠ 36 ∧ x ≠ 42 ∧ x ≠ 62 ∧ x ≠ 123 ∧ x ≠ 46 := by
  unfold wc at h
  refine ⟨?_, ?_, ?_, ?_, ?_⟩ <;> (rintro rfl; revert h; decide)
theorem wc_range {x : UInt8} (h : wc x) : 33 ≤ x.toNat ∧ x.toNat < 128 := by unfold wc at h; omega
theorem MW.first {t : List UInt8} (h : MW t) : ∃ c r, t = c :: r ∧ wc c := by
  cases t with
  | nil => exact absurd rfl h.1
  | cons c r => exact ⟨c, r, rfl, h.2 c (by simp)⟩
theorem MW.n46 {t : List UInt8} (h : MW t) : (46 : UInt8) ∉ t := fun hx => (wc_ne (h.2 _ hx)).2.2.2.2 rfl
theorem MW.ne {t : List UInt8} (h : MW t) : t ≠ [42] ∧ t ≠ [62] := by
  obtain ⟨c, r, rfl, hc⟩ := h.first
  exact ⟨fun e => by injection e with e _; exact (wc_ne hc).2.1 e, fun e => by injection e with e _; exact (wc_ne hc).2.2.1 e⟩
theorem MW.wd {t : List UInt8} (h : MW t) : Wd t := by
  obtain ⟨c, r, rfl, hc⟩ := h.first
  have := wc_ne hc
  exact ⟨c, r, rfl, this.1, this.2.1, this.2.2.1, this.2.2.2.1⟩
theorem MW.pl {t : List UInt8} (h : MW t) : Pl t := by
  obtain ⟨c, r, e, hc⟩ := h.first
  exact ⟨⟨c, r, e, (wc_ne hc).2.2.2.1, (wc_ne hc).2.2.1⟩, fun x hx => wc_range (h.2 x hx)⟩
theorem MW.wordy {t : List UInt8} (h : MW t) : Wordy ⟨t.toArray⟩ := by
  obtain ⟨c, r, rfl, hc⟩ := h.first
  obtain ⟨p0, p1⟩ := first_of' (tb := ⟨(c :: r).toArray⟩) (show (⟨(c :: r).toArray⟩ : ByteArray).data.toList = c :: r from rfl)
  exact .inr ⟨p0, by rw [p1]; exact (wc_ne hc).1, by rw [p1]; exact (wc_ne hc).2.2.2.1⟩
theorem sp_two {c : UInt8} {a b : List UInt8} (ha : c ∉ a) (hb : c ∉ b) : sp c (a ++ c :: b) = [a, b] := by rw [sp_app c b a ha, sp_no c b hb]
theorem sp_many {c : UInt8} : ∀ (ls : List (List UInt8)) (a : List UInt8), c ∉ a → (∀ l ∈ ls, c ∉ l) → sp c (a ++ (ls.map fun l => c :: l).flatten) = a :: ls
  | [], a, ha, _ => by simp [sp_no c a ha]
  | l :: ls, a, ha, hl => by
    have ih := sp_many ls l (hl l (by simp)) (fun x hx => hl x (by simp [hx]))
    rw [List.map_cons, List.flatten_cons, List.cons_append, sp_app c _ a ha, ih]
/-- from a token in double braces -/
theorem mu_ok {p : Pi} {fn args : List UInt8} (he : written p = 123 :: 123 :: (fn ++ 40 :: (args ++ [41, 125, 125]))) (hm : Mu ⟨(written p).toArray⟩ fn args) (hfn : MuT (written p)) (hf46 : (46 : UInt8) ∉ fn) (hc : ∀ w, Calls Tryd.prog 39 #[sv (written p)] w (PhPost (knOf p) w)) : PieceOk p := by
  refine ⟨hc, ?_, .inr hfn, ?_, ?_, ?_, ?_⟩
  · rw [he]
    intro h
    simp only [List.mem_cons, List.mem_append, List.not_mem_nil, or_false] at h
    rcases h with h | h | h | h | h | h | h | h
    · revert h; decide
    · revert h; decide
    · exact hf46 h
    · revert h; decide
    · exact (hm.hargs _ h).2.2.2.2 rfl
    · revert h; decide
    · revert h; decide
    · revert h; decide
  · rw [he]; intro e; injection e with e _; revert e; decide
  · rw [he]; intro e; injection e with e _; revert e; decide
  · rw [he]; simp
  · have := hm.len
    rw [← K.bsize] at this
    exact this
theorem letters (fn : List UInt8) (h : fn.all (fun x => (decide (97 ≤ x.toNat) && decide (x.toNat ≤ 122)) || (decide (65 ≤ x.toNat) && decide (x.toNat ≤ 90))) = true) : ∀ x ∈ fn, (97 ≤ x.toNat ∧ x.toNat ≤ 122) ∨ (65 ≤ x.toNat ∧ x.toNat ≤ 90) := by
  intro x hx
  have := List.all_eq_true.1 h x hx
  simpa [and_assoc] using this
theorem dig_arg {x : UInt8} (h : 48 ≤ x.toNat ∧ x.toNat ≤ 57) : 33 ≤ x.toNat ∧ x.toNat ≠ 123 ∧ x.toNat ≠ 41 ∧ x.toNat < 128 ∧ x.toNat ≠ 46 := by omega
theorem ok_0 (p : Pi) (hf : p.fn = 0) (hw : MW p.word.data.toList) (hl : p.word.size ≤ 20) : PieceOk p := by
  have e : written p = p.word.data.toList := by simp [written, hf]
  have ek : knOf p = Kn.no := by simp [knOf, hf]
  refine ⟨fun w => ?_, by rw [e]; exact hw.n46, .inl (by rw [e]; exact hw.pl), by rw [e]; exact hw.ne.1, by rw [e]; exact hw.ne.2, by rw [e]; exact hw.1, by rw [e, K.bsize]; omega⟩
  rw [e, ek]
  exact ph_word ⟨p.word.data.toList.toArray⟩ w (by rw [← K.bsize]; show p.word.data.toList.length ≤ 100000; rw [K.bsize]; omega) hw.wordy
theorem ok_1 (p : Pi) (hf : p.fn = 1) (ha : nat p.at_ ≤ 1000) : PieceOk p := by
  have e : written p = 36 :: decs (nat p.at_) := by simp [written, hf]
  have ek : knOf p = Kn.wild (nat p.at_) := by simp [knOf, hf]
  have D := dg_of ha
  have hx : ∀ x ∈ written p, 33 ≤ x.toNat ∧ x.toNat < 128 ∧ x.toNat ≠ 46 := by
    rw [e]
    intro x hx
    rcases List.mem_cons.1 hx with rfl | hx
    · decide
    · have := D.c x hx; omega
  have hlen : (decs (nat p.at_)).length ≠ 0 := fun h => decs_ne _ (List.eq_nil_of_length_eq_zero h)
  refine ⟨fun w => ?_, fun h => (hx _ h).2.2 rfl, .inl ⟨⟨36, _, e, by decide, by decide⟩, fun x h => ⟨(hx x h).1, (hx x h).2.1⟩⟩, ?_, ?_, by rw [e]; simp, by rw [e, List.length_cons]; have := D.l; omega⟩
  · rw [e, ek]
    have hsz : (⟨(36 :: decs (nat p.at_)).toArray⟩ : ByteArray).size = (decs (nat p.at_)).length + 1 := by rw [← K.bsize]; rfl
    have hex : ((⟨(36 :: decs (nat p.at_)).toArray⟩ : ByteArray).extract 1 (⟨(36 :: decs (nat p.at_)).toArray⟩ : ByteArray).size).data.toList = decs (nat p.at_) := by rw [tail_data]; rfl
    have h := ph_dollar ⟨(36 :: decs (nat p.at_)).toArray⟩ w (by rw [hsz]; have := D.l; omega) (by rw [hsz]; omega) (by obtain ⟨p0, p1⟩ := first_of' (tb := ⟨(36 :: decs (nat p.at_)).toArray⟩) (c := 36) (r := decs (nat p.at_)) rfl; exact p1) (by rw [hex]; exact D.d)
    rw [hex, D.v] at h
    exact h
  · rw [e]; intro e2; injection e2 with e2 _; revert e2; decide
  · rw [e]; intro e2; injection e2 with e2 _; revert e2; decide
theorem ok_2 (p : Pi) (hf : p.fn = 2) (ha : nat p.at_ ≤ 1000) : PieceOk p := by
  have D := dg_of ha
  have e : written p = 123 :: 123 :: ([119, 105, 108, 100, 99, 97, 114, 100] ++ 40 :: (decs (nat p.at_) ++ [41, 125, 125])) := by simp [written, hf]
  have ek : knOf p = Kn.wild (nat p.at_) := by simp [knOf, hf]
  have hm : Mu ⟨(written p).toArray⟩ [119, 105, 108, 100, 99, 97, 114, 100] (decs (nat p.at_)) := ⟨by rw [← e], letters _ (by decide), by decide, fun x hx => dig_arg (D.c x hx), by rw [← K.bsize]; show (written p).length ≤ 1000; rw [e]; simp; have := D.l; omega⟩
  refine mu_ok e hm ⟨_, _, hm, .inr (.inl rfl)⟩ (by decide) fun w => ?_
  have h := ph_wildcard ⟨(written p).toArray⟩ _ _ w hm rfl (sp_no 44 _ D.n44) (by have := D.l; omega) D.d
  rw [D.v] at h
  rw [ek]
  exact h
theorem ok_3 (p : Pi) (hf : p.fn = 3) (hn : nat p.n ≤ 1000) (hall : ∀ k ∈ p.all, nat k ≤ 1000) (hal : p.all.length ≤ 5) (hne : p.all ≠ []) : PieceOk p := by
  have D := dg_of hn
  have e : written p = 123 :: 123 :: ([112, 97, 114, 116, 105, 116, 105, 111, 110] ++ 40 :: ((decs (nat p.n) ++ (p.all.map fun k => 44 :: decs (nat k)).flatten) ++ [41, 125, 125])) := by simp [written, hf]
  have ek : knOf p = Kn.part (nat p.n) (p.all.map nat) := by simp [knOf, hf]
  have hlen : ∀ l : List Int, (∀ k ∈ l, nat k ≤ 1000) → ((l.map fun k => 44 :: decs (nat k)).flatten).length ≤ 5 * l.length := by
    intro l
    induction l with
    | nil => intro _; simp
    | cons k l ih =>
      intro h
      have h1 := ih (fun x hx => h x (by simp [hx]))
      have h2 := (dg_of (h k (by simp))).l
      rw [List.map_cons, List.flatten_cons, List.length_append, List.length_cons, List.length_cons]
      omega
  have hm : Mu ⟨(written p).toArray⟩ [112, 97, 114, 116, 105, 116, 105, 111, 110] (decs (nat p.n) ++ (p.all.map fun k => 44 :: decs (nat k)).flatten) := by
    refine ⟨by rw [← e], letters _ (by decide), by decide, fun x hx => ?_, ?_⟩
    · rcases List.mem_append.1 hx with hx | hx
      · exact dig_arg (D.c x hx)
      · obtain ⟨l, hl, hxl⟩ := List.mem_flatten.1 hx
        obtain ⟨k, hk, rfl⟩ := List.mem_map.1 hl
        rcases List.mem_cons.1 hxl with rfl | hxl
        · decide
        · exact dig_arg ((dg_of (hall k hk)).c x hxl)
    · rw [← K.bsize]
      show (written p).length ≤ 1000
      have h1 := hlen p.all hall
      have h2 := D.l
      rw [e]
      simp only [List.length_append, List.length_cons, List.length_nil]
      omega
  refine mu_ok e hm ⟨_, _, hm, .inl rfl⟩ (by decide) fun w => ?_
  have hsp : sp 44 (decs (nat p.n) ++ (p.all.map fun k => 44 :: decs (nat k)).flatten) = decs (nat p.n) :: (p.all.map fun k => decs (nat k)) := by
    have := sp_many (c := 44) (p.all.map fun k => decs (nat k)) (decs (nat p.n)) D.n44 (fun l hl => by obtain ⟨k, hk, rfl⟩ := List.mem_map.1 hl; exact (dg_of (hall k hk)).n44)
    rw [List.map_map] at this
    exact this
  have h := ph_partition ⟨(written p).toArray⟩ _ _ _ _ w hm rfl hsp (by simpa using hne) (by have := D.l; omega) D.d (fun l hl => by obtain ⟨k, hk, rfl⟩ := List.mem_map.1 hl; have E := dg_of (hall k hk); exact ⟨by have := E.l; omega, E.d⟩)
  rw [D.v, List.map_map] at h
  have e2 : p.all.map (dec ∘ fun k => decs (nat k)) = p.all.map nat := List.map_congr_left fun k hk => (dg_of (hall k hk)).v
  rw [e2] at h
  rw [ek]
  exact h
theorem ok_4 (p : Pi) (hf : p.fn = 4) (ha : nat p.at_ ≤ 1000) (m : UInt8) (hw : p.word.data.toList = [m]) (hm : m = 45 ∨ m = 95 ∨ m = 120) : PieceOk p := by
  have D := dg_of ha
  have e : written p = 123 :: 123 :: ([115, 112, 108, 105, 116] ++ 40 :: ((decs (nat p.at_) ++ 44 :: p.word.data.toList) ++ [41, 125, 125])) := by simp [written, hf]
  have ek : knOf p = Kn.cut (nat p.at_) p.word := by simp [knOf, hf]
  have hmm : 33 ≤ m.toNat ∧ m.toNat ≠ 123 ∧ m.toNat ≠ 41 ∧ m.toNat < 128 ∧ m.toNat ≠ 46 := by rcases hm with rfl | rfl | rfl <;> decide
  have hmu : Mu ⟨(written p).toArray⟩ [115, 112, 108, 105, 116] (decs (nat p.at_) ++ 44 :: p.word.data.toList) := by
    refine ⟨by rw [← e], letters _ (by decide), by decide, fun x hx => ?_, ?_⟩
    · rw [hw] at hx
      rcases List.mem_append.1 hx with hx | hx
      · exact dig_arg (D.c x hx)
      · rcases List.mem_cons.1 hx with rfl | hx
        · decide
        · obtain rfl := List.mem_singleton.1 hx
          exact hmm
    · rw [← K.bsize]
      show (written p).length ≤ 1000
      have h2 := D.l
      rw [e, hw]
      simp only [List.length_append, List.length_cons, List.length_nil]
      omega
  refine mu_ok e hmu ⟨_, _, hmu, .inr (.inr (.inr (.inr (.inr (.inr (.inl rfl))))))⟩ (by decide) fun w => ?_
  have h := ph_split ⟨(written p).toArray⟩ _ _ (decs (nat p.at_)) p.word.data.toList w hmu rfl (sp_two D.n44 (by rw [hw]; intro h; obtain h := List.mem_singleton.1 h; rcases hm with h1 | h1 | h1 <;> (rw [h1] at h; revert h; decide))) (by have := D.l; omega) (by rw [hw]; simp) D.d (fun x hx => by rw [hw] at hx; obtain rfl := List.mem_singleton.1 hx; rcases hm with rfl | rfl | rfl <;> decide)
  rw [D.v, K.bmk] at h
  rw [ek]
  exact h
theorem ok_5 (p : Pi) (hf : p.fn = 5) (ha : nat p.at_ ≤ 1000) (hn : nat p.n ≤ 1000) : PieceOk p := by
  have D := dg_of ha
  have E := dg_of hn
  have e : written p = 123 :: 123 :: ([115, 112, 108, 105, 116, 70, 114, 111, 109, 76, 101, 102, 116] ++ 40 :: ((decs (nat p.at_) ++ 44 :: decs (nat p.n)) ++ [41, 125, 125])) := by simp [written, hf]
  have ek : knOf p = Kn.two 4 (nat p.at_) (nat p.n) := by simp [knOf, hf]
  have hmu : Mu ⟨(written p).toArray⟩ [115, 112, 108, 105, 116, 70, 114, 111, 109, 76, 101, 102, 116] (decs (nat p.at_) ++ 44 :: decs (nat p.n)) := by
    refine ⟨by rw [← e], letters _ (by decide), by decide, fun x hx => ?_, ?_⟩
    · rcases List.mem_append.1 hx with hx | hx
      · exact dig_arg (D.c x hx)
      · rcases List.mem_cons.1 hx with rfl | hx
        · decide
        · exact dig_arg (E.c x hx)
    · rw [← K.bsize]
      show (written p).length ≤ 1000
      have h2 := D.l
      have h3 := E.l
      rw [e]
      simp only [List.length_append, List.length_cons, List.length_nil]
      omega
  refine mu_ok e hmu ⟨_, _, hmu, .inr (.inr (.inl rfl))⟩ (by decide) fun w => ?_
  have h := ph_splitFromLeft ⟨(written p).toArray⟩ _ _ (decs (nat p.at_)) (decs (nat p.n)) w hmu rfl (sp_two D.n44 E.n44) (by have := D.l; omega) (by have := E.l; omega) D.d E.d
  rw [D.v, E.v] at h
  rw [ek]
  exact h
theorem ok_6 (p : Pi) (hf : p.fn = 6) (ha : nat p.at_ ≤ 1000) (hn : nat p.n ≤ 1000) : PieceOk p := by
  have D := dg_of ha
  have E := dg_of hn
  have e : written p = 123 :: 123 :: ([115, 112, 108, 105, 116, 70, 114, 111, 109, 82, 105, 103, 104, 116] ++ 40 :: ((decs (nat p.at_) ++ 44 :: decs (nat p.n)) ++ [41, 125, 125])) := by simp [written, hf]
  have ek : knOf p = Kn.two 5 (nat p.at_) (nat p.n) := by simp [knOf, hf]
  have hmu : Mu ⟨(written p).toArray⟩ [115, 112, 108, 105, 116, 70, 114, 111, 109, 82, 105, 103, 104, 116] (decs (nat p.at_) ++ 44 :: decs (nat p.n)) := by
    refine ⟨by rw [← e], letters _ (by decide), by decide, fun x hx => ?_, ?_⟩
    · rcases List.mem_append.1 hx with hx | hx
      · exact dig_arg (D.c x hx)
      · rcases List.mem_cons.1 hx with rfl | hx
        · decide
        · exact dig_arg (E.c x hx)
    · rw [← K.bsize]
      show (written p).length ≤ 1000
      have h2 := D.l
      have h3 := E.l
      rw [e]
      simp only [List.length_append, List.length_cons, List.length_nil]
      omega
  refine mu_ok e hmu ⟨_, _, hmu, .inr (.inr (.inr (.inl rfl)))⟩ (by decide) fun w => ?_
  have h := ph_splitFromRight ⟨(written p).toArray⟩ _ _ (decs (nat p.at_)) (decs (nat p.n)) w hmu rfl (sp_two D.n44 E.n44) (by have := D.l; omega) (by have := E.l; omega) D.d E.d
  rw [D.v, E.v] at h
  rw [ek]
  exact h
theorem ok_7 (p : Pi) (hf : p.fn = 7) (ha : nat p.at_ ≤ 1000) (hn : nat p.n ≤ 1000) : PieceOk p := by
  have D := dg_of ha
  have E := dg_of hn
  have e : written p = 123 :: 123 :: ([115, 108, 105, 99, 101, 70, 114, 111, 109, 76, 101, 102, 116] ++ 40 :: ((decs (nat p.at_) ++ 44 :: decs (nat p.n)) ++ [41, 125, 125])) := by simp [written, hf]
  have ek : knOf p = Kn.two 6 (nat p.at_) (nat p.n) := by simp [knOf, hf]
  have hmu : Mu ⟨(written p).toArray⟩ [115, 108, 105, 99, 101, 70, 114, 111, 109, 76, 101, 102, 116] (decs (nat p.at_) ++ 44 :: decs (nat p.n)) := by
    refine ⟨by rw [← e], letters _ (by decide), by decide, fun x hx => ?_, ?_⟩
    · rcases List.mem_append.1 hx with hx | hx
      · exact dig_arg (D.c x hx)
      · rcases List.mem_cons.1 hx with rfl | hx
        · decide
        · exact dig_arg (E.c x hx)
    · rw [← K.bsize]
      show (written p).length ≤ 1000
      have h2 := D.l
      have h3 := E.l
      rw [e]
      simp only [List.length_append, List.length_cons, List.length_nil]
      omega
  refine mu_ok e hmu ⟨_, _, hmu, .inr (.inr (.inr (.inr (.inl rfl))))⟩ (by decide) fun w => ?_
  have h := ph_sliceFromLeft ⟨(written p).toArray⟩ _ _ (decs (nat p.at_)) (decs (nat p.n)) w hmu rfl (sp_two D.n44 E.n44) (by have := D.l; omega) (by have := E.l; omega) D.d E.d
  rw [D.v, E.v] at h
  rw [ek]
  exact h
theorem ok_8 (p : Pi) (hf : p.fn = 8) (ha : nat p.at_ ≤ 1000) (hn : nat p.n ≤ 1000) : PieceOk p := by
  have D := dg_of ha
  have E := dg_of hn
  have e : written p = 123 :: 123 :: ([115, 108, 105, 99, 101, 70, 114, 111, 109, 82, 105, 103, 104, 116] ++ 40 :: ((decs (nat p.at_) ++ 44 :: decs (nat p.n)) ++ [41, 125, 125])) := by simp [written, hf]
  have ek : knOf p = Kn.two 7 (nat p.at_) (nat p.n) := by simp [knOf, hf]
  have hmu : Mu ⟨(written p).toArray⟩ [115, 108, 105, 99, 101, 70, 114, 111, 109, 82, 105, 103, 104, 116] (decs (nat p.at_) ++ 44 :: decs (nat p.n)) := by
    refine ⟨by rw [← e], letters _ (by decide), by decide, fun x hx => ?_, ?_⟩
    · rcases List.mem_append.1 hx with hx | hx
      · exact dig_arg (D.c x hx)
      · rcases List.mem_cons.1 hx with rfl | hx
        · decide
        · exact dig_arg (E.c x hx)
    · rw [← K.bsize]
      show (written p).length ≤ 1000
      have h2 := D.l
      have h3 := E.l
      rw [e]
      simp only [List.length_append, List.length_cons, List.length_nil]
      omega
  refine mu_ok e hmu ⟨_, _, hmu, .inr (.inr (.inr (.inr (.inr (.inl rfl)))))⟩ (by decide) fun w => ?_
  have h := ph_sliceFromRight ⟨(written p).toArray⟩ _ _ (decs (nat p.at_)) (decs (nat p.n)) w hmu rfl (sp_two D.n44 E.n44) (by have := D.l; omega) (by have := E.l; omega) D.d E.d
  rw [D.v, E.v] at h
  rw [ek]
  exact h
theorem ok_9 (p : Pi) (hf : p.fn = 9) (ha : nat p.at_ ≤ 1000) (hn : nat p.n ≤ 1000) : PieceOk p := by
  have D := dg_of ha
  have E := dg_of hn
  have e : written p = 123 :: 123 :: ([108, 101, 102, 116] ++ 40 :: ((decs (nat p.at_) ++ 44 :: decs (nat p.n)) ++ [41, 125, 125])) := by simp [written, hf]
  have ek : knOf p = Kn.two 9 (nat p.at_) (nat p.n) := by simp [knOf, hf]
  have hmu : Mu ⟨(written p).toArray⟩ [108, 101, 102, 116] (decs (nat p.at_) ++ 44 :: decs (nat p.n)) := by
    refine ⟨by rw [← e], letters _ (by decide), by decide, fun x hx => ?_, ?_⟩
    · rcases List.mem_append.1 hx with hx | hx
      · exact dig_arg (D.c x hx)
      · rcases List.mem_cons.1 hx with rfl | hx
        · decide
        · exact dig_arg (E.c x hx)
    · rw [← K.bsize]
      show (written p).length ≤ 1000
      have h2 := D.l
      have h3 := E.l
      rw [e]
      simp only [List.length_append, List.length_cons, List.length_nil]
      omega
  refine mu_ok e hmu ⟨_, _, hmu, .inr (.inr (.inr (.inr (.inr (.inr (.inr (.inl rfl)))))))⟩ (by decide) fun w => ?_
  have h := ph_left ⟨(written p).toArray⟩ _ _ (decs (nat p.at_)) (decs (nat p.n)) w hmu rfl (sp_two D.n44 E.n44) (by have := D.l; omega) (by have := E.l; omega) D.d E.d
  rw [D.v, E.v] at h
  rw [ek]
  exact h
theorem ok_10 (p : Pi) (hf : p.fn = 10) (ha : nat p.at_ ≤ 1000) (hn : nat p.n ≤ 1000) : PieceOk p := by
  have D := dg_of ha
  have E := dg_of hn
  have e : written p = 123 :: 123 :: ([114, 105, 103, 104, 116] ++ 40 :: ((decs (nat p.at_) ++ 44 :: decs (nat p.n)) ++ [41, 125, 125])) := by simp [written, hf]
  have ek : knOf p = Kn.two 10 (nat p.at_) (nat p.n) := by simp [knOf, hf]
  have hmu : Mu ⟨(written p).toArray⟩ [114, 105, 103, 104, 116] (decs (nat p.at_) ++ 44 :: decs (nat p.n)) := by
    refine ⟨by rw [← e], letters _ (by decide), by decide, fun x hx => ?_, ?_⟩
    · rcases List.mem_append.1 hx with hx | hx
      · exact dig_arg (D.c x hx)
      · rcases List.mem_cons.1 hx with rfl | hx
        · decide
        · exact dig_arg (E.c x hx)
    · rw [← K.bsize]
      show (written p).length ≤ 1000
      have h2 := D.l
      have h3 := E.l
      rw [e]
      simp only [List.length_append, List.length_cons, List.length_nil]
      omega
  refine mu_ok e hmu ⟨_, _, hmu, .inr (.inr (.inr (.inr (.inr (.inr (.inr (.inr (rfl))))))))⟩ (by decide) fun w => ?_
  have h := ph_right ⟨(written p).toArray⟩ _ _ (decs (nat p.at_)) (decs (nat p.n)) w hmu rfl (sp_two D.n44 E.n44) (by have := D.l; omega) (by have := E.l; omega) D.d E.d
  rw [D.v, E.v] at h
  rw [ek]
  exact h
theorem piece_ok (p : Pi) (m : Nat) (hm : m ≤ 8) (hs : p.Sm) (hr : Right m p) : PieceOk p := by
  have na : ∀ z : Int, z ≤ 1000 → nat z ≤ 1000 := fun z h => by unfold nat; omega
  rcases hr with ⟨h0, h1⟩ | ⟨h0, h1, h2, h3, h4, h5⟩ | ⟨h0, h1, h2⟩ | ⟨h0, ⟨h1, h2⟩, b, h3, h4⟩ | ⟨h0, ⟨h1, h2⟩, h3, h4⟩
  · exact ok_0 p h0 h1 hs.wl
  · exact ok_3 p h0 (na _ h5) (fun k hk => na _ (by have := h3 k hk; omega)) hs.al h1
  · rcases h0 with h0 | h0
    · exact ok_1 p h0 (na _ (by omega))
    · exact ok_2 p h0 (na _ (by omega))
  · exact ok_4 p h0 (na _ (by omega)) b h3 h4
  · rcases h0 with h0 | h0 | h0 | h0 | h0 | h0
    · exact ok_5 p h0 (na _ (by omega)) (na _ h4)
    · exact ok_6 p h0 (na _ (by omega)) (na _ h4)
    · exact ok_7 p h0 (na _ (by omega)) (na _ h4)
    · exact ok_8 p h0 (na _ (by omega)) (na _ h4)
    · exact ok_9 p h0 (na _ (by omega)) (na _ h4)
    · exact ok_10 p h0 (na _ (by omega)) (na _ h4)
end Go.Proofs.YtocfcajafkkhdaaDoor
end
/- Pb -/
section
namespace Go.Proofs.YtocfcajafkkhdaaDoor
open Go.RowKit

theorem sp_jn (c : UInt8) : ∀ l : List (List UInt8), l ≠ [] → (∀ t ∈ l, c ∉ t) → sp c (jn c l) = l
  | [], h, _ => absurd rfl h
  | [t], _, h => by simp only [jn]; exact sp_no c t (h t (by simp))
  | t :: u :: r, _, h => by
    rw [jn_cons c t (by simp), sp_app c _ t (h t (by simp)), sp_jn c (u :: r) (by simp) (fun x hx => h x (by simp [hx]))]
theorem jn_le (c : UInt8) (L : Nat) : ∀ ts : List (List UInt8), (∀ t ∈ ts, t.length ≤ L) → (jn c ts).length ≤ (L + 1) * ts.length
  | [], _ => by simp [jn]
  | [t], h => by have := h t (by simp); simp [jn]; omega
  | t :: u :: ts, h => by
    have h1 := h t (by simp)
    have ih := jn_le c L (u :: ts) (fun x hx => h x (by simp [hx]))
    rw [jn_cons c t (by simp), List.length_append, List.length_cons]
    have e : (L + 1) * (t :: u :: ts).length = (L + 1) * (u :: ts).length + (L + 1) := by rw [List.length_cons, Nat.mul_add, Nat.mul_one]
    omega
theorem toksF_of {F : List (List UInt8)} (h : ∀ t ∈ F, t ≠ [] ∧ t ≠ [62]) (r : Bool) : Toks (F ++ if r = true then [[62]] else []) := by
  refine ⟨fun t ht => ?_, fun a b e => ?_⟩
  · rcases List.mem_append.1 ht with h2 | h2
    · exact (h t h2).1
    · cases r with
      | false => simp at h2
      | true =>
        obtain rfl : t = [62] := by simpa using h2
        simp
  · have hl := congrArg List.length e
    rw [List.length_append, List.length_append, List.length_cons] at hl
    have h9 : (if r = true then [[62]] else [] : List (List UInt8)).length ≤ 1 := by split <;> simp
    rcases Nat.lt_or_ge a.length F.length with hlt | hge
    · have e1 : (F ++ if r = true then [[62]] else [])[a.length]? = some [62] := by rw [e]; simp
      rw [List.getElem?_append_left hlt] at e1
      exact absurd rfl (h _ (List.mem_of_getElem? e1)).2
    · exact List.eq_nil_of_length_eq_zero (by omega)
theorem fwc_of {F : List (List UInt8)} (h : ∀ t ∈ F, t ≠ [62]) (r : Bool) : fwc (F ++ if r = true then [[62]] else []) = r := by
  have h1 : fwc F = false := by
    unfold fwc
    rw [List.any_eq_false]
    intro t ht e
    exact h t ht (by simpa using e)
  cases r with
  | false => simpa using h1
  | true =>
    rw [if_pos rfl, fwc_snoc, h1]
    rfl
/-- the wildcards' places -/
theorem pcs_at (S : List (List UInt8)) : ∀ k, k ≤ S.length → ∀ t, t < (pcs S k).length → (pcs S k).getD t 0 < k ∧ S.getD ((pcs S k).getD t 0) [] = [42] ∧ pwcs (S.take ((pcs S k).getD t 0)) = t
  | 0, _, t, ht => by simp [pcs_zero] at ht
  | k + 1, hk, t, ht => by
    have ih := pcs_at S k (by omega)
    have hl := pcs_length S k (by omega)
    rw [pcs_succ] at ht ⊢
    rcases Nat.lt_or_ge t (pcs S k).length with h | h
    · obtain ⟨a, b, c⟩ := ih t h
      have e : (pcs S k ++ if S.getD k [] = [42] then [k] else []).getD t 0 = (pcs S k).getD t 0 := by rw [List.getD, List.getElem?_append_left h]; rfl
      rw [e]
      exact ⟨by omega, b, c⟩
    · by_cases h42 : S.getD k [] = [42]
      · rw [if_pos h42] at ht ⊢
        have ht2 : t = (pcs S k).length := by rw [List.length_append, List.length_singleton] at ht; omega
        have e : (pcs S k ++ [k]).getD t 0 = k := by rw [List.getD, List.getElem?_append_right (by omega), ht2, Nat.sub_self]; rfl
        rw [e]
        exact ⟨by omega, h42, by rw [ht2, hl]⟩
      · rw [if_neg h42, List.append_nil] at ht
        omega
section
variable {ws : List (List UInt8)} (hw : ∀ u ∈ ws, u = [] ∨ MW u)
include hw
theorem stT_42 {u : List UInt8} (h : u ∈ ws) : stT u = [42] ↔ u = [] := by
  unfold stT
  constructor
  · intro e
    split at e
    · assumption
    · rename_i h0
      rcases hw u h with h1 | h1
      · exact absurd h1 h0
      · exact absurd e h1.ne.1
  · intro e; rw [if_pos e]
theorem stT_62 {u : List UInt8} (h : u ∈ ws) : stT u ≠ [62] := by
  unfold stT
  split
  · decide
  · rename_i h0
    rcases hw u h with h1 | h1
    · exact absurd h1 h0
    · exact h1.ne.2
theorem pwcs_map (k : Nat) : pwcs ((ws.take k).map stT) = stars (ws.take k) := by
  unfold pwcs stars
  rw [List.countP_map]
  apply List.countP_congr
  intro u hu
  have := stT_42 hw (List.mem_of_mem_take hu)
  simp only [Function.comp, beq_iff_eq]
  exact this
theorem pwcs_src (r : Bool) : pwcs (srcT ws r) = stars ws := by
  have h := pwcs_map hw ws.length
  rw [List.take_length] at h
  unfold srcT
  have e : ∀ (a b : List (List UInt8)), pwcs (a ++ b) = pwcs a + pwcs b := fun a b => by unfold pwcs; rw [List.countP_append]
  rw [e, h]
  cases r <;> rfl
theorem src_take (r : Bool) {q : Nat} (hq : q ≤ ws.length) : pwcs ((srcT ws r).take q) = stars (ws.take q) := by
  unfold srcT
  rw [List.take_append_of_le_length (by simpa using hq), ← List.map_take]
  exact pwcs_map hw q
end
/-- a subject's token at a wildcard's place -/
theorem tok_at {ws ss ts : List (List UInt8)} (hw : ∀ u ∈ ws, u = [] ∨ MW u) (r : Bool) (miss : Int) {t : Nat} (ht : t < stars ws) :
    (pcs (srcT ws r) (srcT ws r).length).getD t 0 < ws.length ∧ (subs ws ss miss ws.length ++ ts).getD ((pcs (srcT ws r) (srcT ws r).length).getD t 0) [] = ss.getD t [] := by
  have hl := pcs_length (srcT ws r) (srcT ws r).length (Nat.le_refl _)
  rw [List.take_length, pwcs_src hw] at hl
  obtain ⟨h1, h2, h3⟩ := pcs_at (srcT ws r) (srcT ws r).length (Nat.le_refl _) t (by omega)
  generalize (pcs (srcT ws r) (srcT ws r).length).getD t 0 = q at h1 h2 h3
  have hq : q < ws.length := by
    apply Classical.byContradiction
    intro hn
    unfold srcT at h1 h2
    cases r with
    | false => simp at h1; omega
    | true =>
      simp at h1
      have hq2 : q = ws.length := by omega
      rw [if_pos rfl, List.getD, List.getElem?_append_right (by simp; omega)] at h2
      subst hq2
      simp at h2
  refine ⟨hq, ?_⟩
  have hmem : ws.getD q [] ∈ ws := by rw [List.getD, List.getElem?_eq_getElem hq]; exact List.getElem_mem hq
  have h4 : ws.getD q [] = [] := by
    rw [← stT_42 hw hmem, ← h2]
    unfold srcT
    simp [List.getD, List.getElem?_append_left, hq]
  rw [src_take hw r (by omega)] at h3
  have e : (subs ws ss miss ws.length ++ ts).getD q [] = subTok ws ss miss q := by
    unfold subs
    simp [List.getD, List.getElem?_append_left, hq]
  rw [e]
  unfold subTok
  rw [if_pos h4, h3]
/-! ## a subject is the source's -/
def mtcL (toks Q : List (List UInt8)) : Bool := (List.zip toks Q).all fun p => p.2 == [42] || p.1 == p.2
theorem mtc_pre : ∀ (Q toks : List (List UInt8)), (∀ t ∈ Q, t ≠ [62]) → toks.length = Q.length → mtc toks Q = mtcL toks Q ∧ ∀ R, R ≠ [] → mtc (toks ++ R) (Q ++ [[62]]) = mtcL toks Q
  | [], [], _, _ => ⟨rfl, fun R hR => by
    cases R with
    | nil => exact absurd rfl hR
    | cons x R => simp [mtc, mtcL]⟩
  | u :: Q, t :: toks, h, hl => by
    obtain ⟨h1, h2⟩ := mtc_pre Q toks (fun x hx => h x (by simp [hx])) (by simpa using hl)
    have h62 := h u (by simp)
    have e : mtcL (t :: toks) (u :: Q) = if u = [42] ∨ t = u then mtcL toks Q else false := by
      unfold mtcL
      rw [List.zip_cons_cons, List.all_cons]
      by_cases hc : u = [42] ∨ t = u
      · rw [if_pos hc]
        rcases hc with hc | hc <;> simp [hc]
      · rw [if_neg hc]
        have : (u == [42] || t == u) = false := by
          rw [Bool.or_eq_false_iff, beq_eq_false_iff_ne, beq_eq_false_iff_ne]
          exact ⟨fun h => hc (.inl h), fun h => hc (.inr h)⟩
        rw [this]; rfl
    refine ⟨by rw [mtc, if_neg h62, e, h1], fun R hR => ?_⟩
    rw [List.cons_append, List.cons_append, mtc, if_neg h62, e, h2 R hR]
  | [], _ :: _, _, hl => by simp at hl
  | _ :: _, [], _, hl => by simp at hl
theorem subs_len (ws ss : List (List UInt8)) (miss : Int) (j : Nat) : (subs ws ss miss j).length = j := by simp [subs]
theorem mtcL_hit {ws ss : List (List UInt8)} (_hw : ∀ u ∈ ws, u = [] ∨ MW u) {miss : Int} (h : ¬ missed ws miss ws.length) : mtcL (subs ws ss miss ws.length) (ws.map stT) = true := by
  unfold mtcL
  rw [List.all_eq_true]
  intro p hp
  obtain ⟨i, hi, rfl⟩ := List.mem_iff_getElem.1 hp
  have hi2 : i < ws.length := by simp [subs_len] at hi; omega
  rw [List.getElem_zip]
  simp only [subs, List.getElem_map, List.getElem_range]
  have hg : ws.getD i [] = ws[i] := by simp [List.getD, hi2]
  by_cases h0 : ws[i] = []
  · simp [stT, h0]
  · have hm : (i : Int) ≠ miss := fun e => h ⟨i, hi2, by rw [hg]; exact h0, e⟩
    simp only [subTok, hg, if_neg h0, if_neg hm, stT]
    simp
theorem mtcL_miss {ws ss : List (List UInt8)} (hw : ∀ u ∈ ws, u = [] ∨ MW u) {miss : Int} (h : missed ws miss ws.length) : mtcL (subs ws ss miss ws.length) (ws.map stT) = false := by
  obtain ⟨i, hi, h0, hm⟩ := h
  have hg : ws.getD i [] = ws[i] := by simp [List.getD, hi]
  rw [hg] at h0
  unfold mtcL
  rw [List.all_eq_false]
  have hl : i < (List.zip (subs ws ss miss ws.length) (ws.map stT)).length := by simp [subs_len]; omega
  refine ⟨_, List.getElem_mem hl, ?_⟩
  rw [List.getElem_zip]
  simp only [subs, List.getElem_map, List.getElem_range, subTok, hg, if_neg h0, if_pos hm]
  have h1 : stT ws[i] = ws[i] := by unfold stT; rw [if_neg h0]
  rw [h1]
  have h2 : ws[i] ≠ [42] := by
    rcases hw ws[i] (List.getElem_mem hi) with h | h
    · exact absurd h h0
    · exact h.ne.1
  simp [h2]
end Go.Proofs.YtocfcajafkkhdaaDoor
end
/- Pd -/
section
namespace Go.Proofs.YtocfcajafkkhdaaDoor
open Go.RowKit

/-- the destination's tokens, and what they are -/
def dstT (dest : List Pi) (r : Bool) : List (List UInt8) := dest.map written ++ if r = true then [[62]] else []
def knT (dest : List Pi) (r : Bool) : List Kn := dest.map knOf ++ if r = true then [Kn.no] else []
theorem one_len {α : Type} (r : Bool) (x : α) : (if r = true then [x] else []).length = if r = true then 1 else 0 := by split <;> rfl
theorem knT_len (dest : List Pi) (r : Bool) : (knT dest r).length = (dstT dest r).length := by
  unfold knT dstT
  simp only [List.length_append, List.length_map]
  cases r <;> rfl
theorem knT_at {dest : List Pi} {r : Bool} {j : Nat} (h : j < dest.length) : kAt (knT dest r) j = knOf dest[j] := by
  unfold kAt knT
  simp [List.getD, List.getElem?_append_left, h]
theorem dstT_at {dest : List Pi} {r : Bool} {j : Nat} (h : j < dest.length) : (dstT dest r).getD j [] = written dest[j] := by
  unfold dstT
  simp [List.getD, List.getElem?_append_left, h]
theorem last_at {dest : List Pi} {r : Bool} {j : Nat} (h : j < (knT dest r).length) (h2 : ¬ j < dest.length) : r = true ∧ j = dest.length ∧ kAt (knT dest r) j = Kn.no ∧ (dstT dest r).getD j [] = [62] := by
  unfold knT at h
  rw [List.length_append, List.length_map] at h
  cases r with
  | false => simp at h; omega
  | true =>
    simp at h
    have hj : j = dest.length := by omega
    refine ⟨rfl, hj, ?_, ?_⟩
    · unfold kAt knT
      simp [List.getD, hj]
    · unfold dstT
      simp [List.getD, hj]
theorem knOf_fits {p : Pi} {m : Nat} (hs : p.Sm) (hr : Right m p) : (knOf p).fits m := by
  have hb : ∀ z : Int, 1 ≤ z → z ≤ (m : Int) → 1 ≤ ((nat z : Nat) : Int) ∧ ((nat z : Nat) : Int) ≤ (m : Int) := fun z h1 h2 => by unfold nat; omega
  unfold Kn.fits
  rcases hr with ⟨h0, h1⟩ | ⟨h0, h1, h2, h3, h4, h5⟩ | ⟨h0, h1, h2⟩ | ⟨h0, ⟨h1, h2⟩, b, h3, h4⟩ | ⟨h0, ⟨h1, h2⟩, h3, h4⟩
  · have ek : knOf p = Kn.no := by simp [knOf, h0]
    rw [ek]
    exact ⟨.inl rfl, by decide⟩
  · have ek : knOf p = Kn.part (nat p.n) (p.all.map nat) := by simp [knOf, h0]
    rw [ek]
    refine ⟨.inr ⟨by simpa [Kn.part] using h1, fun i hi => ?_⟩, by simp only [Kn.part, List.length_map]; have := hs.al; omega⟩
    simp only [Kn.part, List.map_map] at hi
    obtain ⟨k, hk, rfl⟩ := List.mem_map.1 hi
    exact hb k (h3 k hk).1 (h3 k hk).2
  · have ek : knOf p = Kn.wild (nat p.at_) := by rcases h0 with h0 | h0 <;> simp [knOf, h0]
    rw [ek]
    refine ⟨.inr ⟨by simp [Kn.wild], fun i hi => ?_⟩, by simp [Kn.wild]⟩
    obtain rfl : i = ((nat p.at_ : Nat) : Int) := by simpa [Kn.wild] using hi
    exact hb _ h1 h2
  · have ek : knOf p = Kn.cut (nat p.at_) p.word := by simp [knOf, h0]
    rw [ek]
    refine ⟨.inr ⟨by simp [Kn.cut], fun i hi => ?_⟩, by simp [Kn.cut]⟩
    obtain rfl : i = ((nat p.at_ : Nat) : Int) := by simpa [Kn.cut] using hi
    exact hb _ h1 h2
  · have ek : ∃ ty, knOf p = Kn.two ty (nat p.at_) (nat p.n) := ⟨if p.fn ≤ 8 then p.fn - 1 else p.fn, by rcases h0 with h0 | h0 | h0 | h0 | h0 | h0 <;> simp [knOf, h0]⟩
    obtain ⟨ty, ek⟩ := ek
    rw [ek]
    refine ⟨.inr ⟨by simp [Kn.two], fun i hi => ?_⟩, by simp [Kn.two]⟩
    obtain rfl : i = ((nat p.at_ : Nat) : Int) := by simpa [Kn.two] using hi
    exact hb _ h1 h2
/-- all that a mapping that is built gives -/
structure Mz (ws : List (List UInt8)) (r : Bool) (dest : List Pi) (ss ts : List (List UInt8)) (miss : Int) (s1 to subj : ByteArray) : Prop where
  mx : Mx s1 to (srcT ws r) (dstT dest r) (knT dest r)
  sub : sp 46 subj.data.toList = subs ws ss miss ws.length ++ ts
  ssz : subj.size ≤ 100000
  n : (subs ws ss miss ws.length ++ ts).length ≤ 32
  wd : ∀ t ∈ subs ws ss miss ws.length ++ ts, Wd t
  l : ∀ t ∈ subs ws ss miss ws.length ++ ts, t.length ≤ 1000
theorem tok_mem {ws ss : List (List UInt8)} (hw : ∀ u ∈ ws, u = [] ∨ MW u) (hs : ∀ u ∈ ss, MW u) (hst : ss.length = stars ws) {miss : Int} {t : List UInt8} (h : t ∈ subs ws ss miss ws.length) : (∃ u, (u ∈ ws ∨ u ∈ ss) ∧ (t = u ∨ t = u ++ [120])) ∧ MW t := by
  unfold subs at h
  obtain ⟨i, hi, rfl⟩ := List.mem_map.1 h
  have hi2 : i < ws.length := by simpa using hi
  have hm : ws.getD i [] ∈ ws := by rw [List.getD, List.getElem?_eq_getElem hi2]; exact List.getElem_mem hi2
  unfold subTok
  split
  · rename_i h0
    have h1 := stars_take ws (i + 1)
    have h3 := stars_step hi2
    rw [if_pos h0] at h3
    have h4 : stars (ws.take i) < ss.length := by omega
    have hm2 : ss.getD (stars (ws.take i)) [] ∈ ss := by rw [List.getD, List.getElem?_eq_getElem h4]; exact List.getElem_mem h4
    exact ⟨⟨_, .inr hm2, .inl rfl⟩, hs _ hm2⟩
  · rename_i h0
    have hmw : MW (ws.getD i []) := (hw _ hm).resolve_left h0
    split
    · refine ⟨⟨_, .inl hm, .inr rfl⟩, by simp, fun x hx => ?_⟩
      rcases List.mem_append.1 hx with hx | hx
      · exact hmw.2 x hx
      · obtain rfl := List.mem_singleton.1 hx
        unfold wc; decide
    · exact ⟨⟨_, .inl hm, .inl rfl⟩, hmw⟩
theorem size_pos {s : ByteArray} {l : List (List UInt8)} (h : s.data.toList = jn 46 l) (h0 : l ≠ []) (hn : ∀ t ∈ l, t ≠ []) : 0 < s.size := by
  rcases Nat.eq_zero_or_pos s.size with h1 | h1
  · have : s.data.toList = [] := List.eq_nil_of_length_eq_zero (by rw [K.bsize]; exact h1)
    rw [h] at this
    exact absurd (jn_nil hn this) h0
  · exact h1
theorem mz_of {ws : List (List UInt8)} {r : Bool} {dest : List Pi} {ss ts : List (List UInt8)} {miss : Int} {s1 to subj out : ByteArray} {k : Int} (hl : Ml ws dest ss ts) (h : MdFacts ws r dest ss ts miss s1 to subj out k) : Mz ws r dest ss ts miss s1 to subj := by
  obtain ⟨h1, hS0, hw, hst, hss, hts, hrt, hd0, hR, hsub, hkd, hto, _⟩ := h
  have pok : ∀ p ∈ dest, PieceOk p := fun p hp => piece_ok p ss.length hl.s0 (hl.d1 p hp) (hR p hp)
  -- the source
  have hsn : ∀ t ∈ ws.map stT, t ≠ [] ∧ t ≠ [62] := fun t ht => by
    obtain ⟨u, hu, rfl⟩ := List.mem_map.1 ht
    exact ⟨stT_ne u, stT_62 hw hu⟩
  have hs46 : ∀ t ∈ srcT ws r, (46 : UInt8) ∉ t := fun t ht => by
    unfold srcT at ht
    rcases List.mem_append.1 ht with ht | ht
    · obtain ⟨u, hu, rfl⟩ := List.mem_map.1 ht
      unfold stT
      split
      · decide
      · rename_i h0
        exact ((hw u hu).resolve_left h0).n46
    · cases r with
      | false => simp at ht
      | true =>
        obtain rfl : t = [62] := by simpa using ht
        decide
  have hsl : ∀ t ∈ srcT ws r, t.length ≤ 20 := fun t ht => by
    unfold srcT at ht
    rcases List.mem_append.1 ht with ht | ht
    · obtain ⟨u, hu, rfl⟩ := List.mem_map.1 ht
      unfold stT
      split
      · decide
      · exact hl.w1 u hu
    · cases r with
      | false => simp at ht
      | true =>
        obtain rfl : t = [62] := by simpa using ht
        decide
  have hSlen : (srcT ws r).length ≤ 9 := by
    unfold srcT
    rw [List.length_append, List.length_map, one_len]
    have := hl.w0
    split <;> omega
  have hSp : sp 46 s1.data.toList = srcT ws r := by rw [h1]; exact sp_jn 46 _ hS0 hs46
  have tS : Toks (srcT ws r) := toksF_of hsn r
  -- the destination
  have hdn : ∀ t ∈ dest.map written, t ≠ [] ∧ t ≠ [62] := fun t ht => by
    obtain ⟨p, hp, rfl⟩ := List.mem_map.1 ht
    exact ⟨(pok p hp).n0, (pok p hp).n62⟩
  have hDne : dstT dest r ≠ [] := by unfold dstT; intro e; exact hd0 (by simpa using (List.append_eq_nil_iff.1 e).1)
  have hto2 : to.data.toList = jn 46 (dstT dest r) := by
    rw [hto]
    unfold dstT
    cases r with
    | false => simp
    | true => rw [if_pos rfl, if_pos rfl, jn_snoc, if_neg (by simpa using hd0)]
  have hd46 : ∀ t ∈ dstT dest r, (46 : UInt8) ∉ t := fun t ht => by
    unfold dstT at ht
    rcases List.mem_append.1 ht with ht | ht
    · obtain ⟨p, hp, rfl⟩ := List.mem_map.1 ht
      exact (pok p hp).n46
    · cases r with
      | false => simp at ht
      | true =>
        obtain rfl : t = [62] := by simpa using ht
        decide
  have hdl : ∀ t ∈ dstT dest r, t.length ≤ 1000 := fun t ht => by
    unfold dstT at ht
    rcases List.mem_append.1 ht with ht | ht
    · obtain ⟨p, hp, rfl⟩ := List.mem_map.1 ht
      exact (pok p hp).len
    · cases r with
      | false => simp at ht
      | true =>
        obtain rfl : t = [62] := by simpa using ht
        decide
  have hDlen : (dstT dest r).length ≤ 9 := by
    unfold dstT
    rw [List.length_append, List.length_map, one_len]
    have := hl.d0
    split <;> omega
  have hDp : sp 46 to.data.toList = dstT dest r := by rw [hto2]; exact sp_jn 46 _ hDne hd46
  have tD : Toks (dstT dest r) := toksF_of hdn r
  -- the subject
  have htm : ∀ t ∈ subs ws ss miss ws.length ++ ts, MW t ∧ t.length ≤ 21 := fun t ht => by
    rcases List.mem_append.1 ht with ht | ht
    · obtain ⟨⟨u, hu, e⟩, hm⟩ := tok_mem hw hss hst ht
      refine ⟨hm, ?_⟩
      have hu2 : u.length ≤ 20 := by rcases hu with hu | hu; exact hl.w1 u hu; exact hl.s1 u hu
      rcases e with e | e
      · rw [e]; omega
      · rw [e, List.length_append, List.length_singleton]; omega
    · exact ⟨hts t ht, by have := hl.t1 t ht; omega⟩
  have hT0 : subs ws ss miss ws.length ++ ts ≠ [] := by
    intro e
    obtain ⟨e1, e2⟩ := List.append_eq_nil_iff.1 e
    have e3 : ws = [] := List.eq_nil_of_length_eq_zero (by have := congrArg List.length e1; rwa [subs_len] at this)
    apply hS0
    unfold srcT
    rw [e3]
    cases r with
    | false => rfl
    | true => exact absurd e2 (hrt.1 rfl)
  have hTlen : (subs ws ss miss ws.length ++ ts).length ≤ 12 := by
    rw [List.length_append, subs_len]
    have := hl.w0
    have := hl.t0
    omega
  have hUp : sp 46 subj.data.toList = subs ws ss miss ws.length ++ ts := by rw [hsub]; exact sp_jn 46 _ hT0 (fun t ht => (htm t ht).1.n46)
  refine ⟨?_, hUp, ?_, by omega, fun t ht => (htm t ht).1.wd, fun t ht => by have := (htm t ht).2; omega⟩
  · refine { s0 := size_pos h1 hS0 tS.1, s1 := ?_, d0 := size_pos hto2 hDne tD.1, d1 := ?_, d2 := ?_, hS := hSp, hD := hDp, tS := tS, tD := tD, np := ?_, ff := ?_, len := knT_len dest r, kc := ?_, fit := ?_, wild := ?_, nS := by omega, nD := by omega, lD := hdl, sk := ?_, pl := ?_ }
    · rw [← K.bsize, h1]
      have h8 := jn_le 46 20 _ hsl
      have h9 : (20 + 1) * (srcT ws r).length ≤ (20 + 1) * 9 := Nat.mul_le_mul_left _ hSlen
      omega
    · rw [← K.bsize, hto2]
      have h8 := jn_le 46 1000 _ hdl
      have h9 : (1000 + 1) * (dstT dest r).length ≤ (1000 + 1) * 9 := Nat.mul_le_mul_left _ hDlen
      omega
    · intro e
      rw [e] at hDp
      have e2 : dstT dest r = [[62]] := hDp.symm.trans rfl
      cases dest with
      | nil => exact hd0 rfl
      | cons p d =>
        unfold dstT at e2
        rw [List.map_cons, List.cons_append] at e2
        injection e2 with e2 _
        exact (pok p (by simp)).n62 e2
    · unfold pwcs
      rw [List.countP_eq_zero]
      intro t ht
      unfold dstT at ht
      rcases List.mem_append.1 ht with ht | ht
      · obtain ⟨p, hp, rfl⟩ := List.mem_map.1 ht
        simpa using (pok p hp).n42
      · cases r with
        | false => simp at ht
        | true =>
          obtain rfl : t = [62] := by simpa using ht
          decide
    · have e1 : fwc (srcT ws r) = r := fwc_of (fun t ht => (hsn t ht).2) r
      have e2 : fwc (dstT dest r) = r := fwc_of (fun t ht => (hdn t ht).2) r
      rw [e1, e2]
    · intro j hj w
      by_cases h9 : j < dest.length
      · rw [knT_at h9, dstT_at h9]
        exact (pok _ (List.getElem_mem h9)).call w
      · obtain ⟨_, _, e1, e2⟩ := last_at hj h9
        rw [e1, e2]
        exact ph_word ⟨#[62]⟩ w (by decide) (.inl rfl)
    · intro kn hk
      unfold knT at hk
      rcases List.mem_append.1 hk with hk | hk
      · obtain ⟨p, hp, rfl⟩ := List.mem_map.1 hk
        rw [pwcs_src hw, ← hst]
        exact knOf_fits (hl.d1 p hp) (hR p hp)
      · cases r with
        | false => simp at hk
        | true =>
          obtain rfl : kn = Kn.no := by simpa using hk
          exact ⟨.inl rfl, by decide⟩
    · have e1 : fwc (srcT ws r) = r := fwc_of (fun t ht => (hsn t ht).2) r
      rw [pwcs_src hw, e1]
      by_cases h9 : 0 < stars ws ∨ r = true
      · exact .inl h9
      · have h8 : stars ws = 0 := by omega
        have h7 : r = false := by cases r <;> simp_all
        refine .inr ⟨h8, h7, ?_⟩
        have hz : ∀ p ∈ dest, knOf p = Kn.no := fun p hp => by
          have h5 := hR p hp
          rw [hst, h8] at h5
          have h6 : p.fn = 0 := by
            rcases h5 with ⟨h0, _⟩ | ⟨h0, g1, g2, _⟩ | ⟨_, g1, g2⟩ | ⟨_, ⟨g1, g2⟩, _⟩ | ⟨_, ⟨g1, g2⟩, _⟩
            · exact h0
            · exact absurd (List.eq_nil_of_length_eq_zero (by omega)) g1
            · omega
            · omega
            · omega
          simp [knOf, h6]
        subst h7
        unfold knT dstT
        simp only [Bool.false_eq_true, if_false, List.append_nil, List.length_map]
        rw [List.eq_replicate_iff]
        refine ⟨by simp, fun kn hk => ?_⟩
        obtain ⟨p, hp, rfl⟩ := List.mem_map.1 hk
        exact hz p hp
    · intro t ht
      unfold srcT at ht
      rcases List.mem_append.1 ht with ht | ht
      · obtain ⟨u, hu, rfl⟩ := List.mem_map.1 ht
        unfold stT
        split
        · exact .inl rfl
        · rename_i h0
          exact .inr (.inr ((hw u hu).resolve_left h0).wd)
      · cases r with
        | false => simp at ht
        | true => exact .inr (.inl (by simpa using ht))
    · intro t ht
      unfold dstT at ht
      rcases List.mem_append.1 ht with ht | ht
      · obtain ⟨p, hp, rfl⟩ := List.mem_map.1 ht
        exact .inr (pok p hp).form
      · cases r with
        | false => simp at ht
        | true => exact .inl (by simpa using ht)
  · rw [← K.bsize, hsub]
    have h8 := jn_le 46 21 _ (fun t ht => (htm t ht).2)
    have h9 : (21 + 1) * (subs ws ss miss ws.length ++ ts).length ≤ (21 + 1) * 12 := Nat.mul_le_mul_left _ hTlen
    omega
end Go.Proofs.YtocfcajafkkhdaaDoor
end
/- Pe -/
section
namespace Go.Proofs.YtocfcajafkkhdaaDoor
open Go.RowKit

theorem nat_succ (t : Nat) : nat ((t : Int) + 1) = t + 1 := by unfold nat; omega
theorem nat_of (t : Nat) : nat (t : Int) = t := by unfold nat; omega
/-- a wildcard's place -/
def plc (S : List (List UInt8)) (t : Nat) : Nat := (pcs S S.length).getD t 0
theorem at_wild (S : List (List UInt8)) (t : Nat) : Kn.at_ S (Kn.wild (t + 1)) = ⟨3, [((plc S t : Nat) : Int)], -1, ⟨#[]⟩⟩ := by
  unfold Kn.at_ Kn.wild plc
  simp
theorem at_two (S : List (List UInt8)) (ty : Int) (h : ty ≠ 0) (t N : Nat) : Kn.at_ S (Kn.two ty (t + 1) N) = Kn.two ty (plc S t) N := by
  unfold Kn.at_ Kn.two plc
  simp [h]
theorem at_cut (S : List (List UInt8)) (t : Nat) (m : ByteArray) : Kn.at_ S (Kn.cut (t + 1) m) = Kn.cut (plc S t) m := by
  unfold Kn.at_ Kn.cut plc
  simp
theorem at_part (S : List (List UInt8)) (N : Nat) (ts : List Nat) : Kn.at_ S (Kn.part N (ts.map (· + 1))) = Kn.part N (ts.map (plc S)) := by
  unfold Kn.at_ Kn.part
  simp only [show ¬ (2 : Int) = 0 by decide, if_false, List.map_map]
  congr 1
theorem rep_len (m : UInt8) (l : List UInt8) : (rep m l).length = l.length := by simp [rep]
theorem out2_of {ws : List (List UInt8)} {r : Bool} {dest : List Pi} {ss ts : List (List UInt8)} {miss : Int} (hl : Ml ws dest ss ts) (hw : ∀ u ∈ ws, u = [] ∨ MW u) (hst : ss.length = stars ws) (hR : ∀ p ∈ dest, Right ss.length p)
    {j : Nat} (hj : j < dest.length) {o : List UInt8} (hp : PutIs dest[j] ss o) :
    Out2 (dstT dest r) (subs ws ss miss ws.length ++ ts) ((knT dest r).map (Kn.at_ (srcT ws r))) j o := by
  have hjl : j < (knT dest r).length := by unfold knT; rw [List.length_append, List.length_map]; omega
  have hk : kAt ((knT dest r).map (Kn.at_ (srcT ws r))) j = Kn.at_ (srcT ws r) (knOf dest[j]) := by
    have e : kAt ((knT dest r).map (Kn.at_ (srcT ws r))) j = Kn.at_ (srcT ws r) (kAt (knT dest r) j) := by simp [kAt, List.getD, hjl]
    rw [e, knT_at hj]
  have hd := dstT_at (r := r) hj
  have hsm := hl.d1 _ (List.getElem_mem hj)
  have hrt := hR _ (List.getElem_mem hj)
  have hlen : (subs ws ss miss ws.length ++ ts).length = ws.length + ts.length := by rw [List.length_append, subs_len]
  have htok : ∀ t, t < ss.length → plc (srcT ws r) t < (subs ws ss miss ws.length ++ ts).length ∧ (subs ws ss miss ws.length ++ ts).getD (plc (srcT ws r) t) [] = ss.getD t [] := fun t ht => by
    obtain ⟨h1, h2⟩ := tok_at (ts := ts) (ss := ss) hw r miss (by rw [← hst]; exact ht : t < stars ws)
    exact ⟨by rw [hlen]; unfold plc; omega, h2⟩
  have hsl : ∀ t, (ss.getD t []).length ≤ 20 := fun t => by
    by_cases ht : t < ss.length
    · exact hl.s1 _ (by rw [List.getD, List.getElem?_eq_getElem ht]; exact List.getElem_mem ht)
    · simp [List.getD, List.getElem?_eq_none (by omega : ss.length ≤ t)]
  generalize dest[j] = p at hp hk hd hsm hrt
  unfold Out2
  rw [hk, hd]
  rcases hp with ⟨h0, rfl⟩ | ⟨h0, ts', N, hall, htl, hn, hN1, hN2, rfl⟩ | ⟨t, hat, ht, hp⟩
  · refine ⟨by rw [K.bsize]; have := hsm.wl; omega, .inl ⟨?_, ?_⟩⟩
    · have ek : knOf p = Kn.no := by simp [knOf, h0]
      rw [ek]; rfl
    · simp [written, h0]
  · have hall2 : p.all.map nat = ts'.map (· + 1) := by
      rw [hall, List.map_map]
      exact List.map_congr_left fun t _ => nat_succ t
    have ek : knOf p = Kn.part N (ts'.map (· + 1)) := by
      have : knOf p = Kn.part (nat p.n) (p.all.map nat) := by simp [knOf, h0]
      rw [this, hn, nat_of, hall2]
    have hne : ts' ≠ [] := by
      rintro rfl
      rcases hrt with ⟨h9, _⟩ | ⟨_, h9, _⟩ | ⟨h9, _⟩ | ⟨h9, _⟩ | ⟨h9, _⟩
      · rw [h0] at h9; cases h9
      · exact h9 hall
      · rw [h0] at h9; rcases h9 with h9 | h9 <;> cases h9
      · rw [h0] at h9; cases h9
      · rw [h0] at h9; rcases h9 with h9 | h9 | h9 | h9 | h9 | h9 <;> cases h9
    have hl5 : ts'.length ≤ 5 := by have := hsm.al; rw [hall, List.length_map] at this; exact this
    refine ⟨?_, .inr (.inr (.inr (.inr ⟨ts'.map (plc (srcT ws r)), N, by rw [ek, at_part], by simpa using hne, by rw [List.length_map]; omega, fun q hq => ?_, hN1, hN2, ?_⟩)))⟩
    · unfold hashed
      have h8 := decs_len 3 (fnvs 2166136261 (gat ss ts') % N) (Nat.lt_of_lt_of_le (Nat.mod_lt _ (by omega)) (Nat.le_trans hN2 (by decide)))
      omega
    · obtain ⟨t, ht, rfl⟩ := List.mem_map.1 hq
      exact (htok t (htl t ht)).1
    · congr 1
      unfold gat
      rw [List.map_map]
      congr 1
      exact (List.map_congr_left fun t ht => (htok t (htl t ht)).2).symm
  · obtain ⟨h1, h2⟩ := htok t ht
    have ha : nat p.at_ = t + 1 := by rw [hat, nat_succ]
    have hs := hsl t
    rcases hp with ⟨h0, rfl⟩ | ⟨h0, m, hm, hne, rfl⟩ | ⟨N, hn, hN1, hN2, hN3, hp⟩
    · have ek : knOf p = Kn.wild (t + 1) := by rcases h0 with h0 | h0 <;> simp [knOf, h0, ha]
      rw [ek, at_wild]
      exact ⟨by omega, .inr (.inl ⟨rfl, plc (srcT ws r) t, rfl, h1, h2.symm⟩)⟩
    · have ek : knOf p = Kn.cut (t + 1) ⟨#[m]⟩ := by
        have : knOf p = Kn.cut (nat p.at_) p.word := by simp [knOf, h0]
        rw [this, ha, ← K.bmk p.word, hm]
      rw [ek, at_cut]
      refine ⟨by rw [jn_split, rep_len]; omega, .inr (.inr (.inr (.inl ⟨plc (srcT ws r) t, m, rfl, h1, ?_, ?_⟩)))⟩
      · rw [h2]; exact hne
      · rw [h2]
    · have hN : nat p.n = N := by rw [hn, nat_of]
      have two : ∀ (ty : Int), ty ≠ 0 → knOf p = Kn.two ty (t + 1) N → Two ty (ss.getD t []) N o → ∃ (t N : Nat) (ty : Int), Kn.at_ (srcT ws r) (knOf p) = Kn.two ty t N ∧ t < (subs ws ss miss ws.length ++ ts).length ∧ 1 ≤ N ∧ N ≤ 1000 ∧ N < ((subs ws ss miss ws.length ++ ts).getD t []).length ∧ Two ty ((subs ws ss miss ws.length ++ ts).getD t []) N o :=
        fun ty hty ek htw => ⟨plc (srcT ws r) t, N, ty, by rw [ek, at_two _ _ hty], h1, hN1, hN2, by rw [h2]; exact hN3, by rw [h2]; exact htw⟩
      have hd2 := fun c => dots_len c (ss.getD t []) (ss.getD t []).length
      rcases hp with ⟨h0, rfl⟩ | ⟨h0, rfl⟩ | ⟨h0, rfl⟩ | ⟨h0, rfl⟩ | ⟨h0, rfl⟩ | ⟨h0, rfl⟩
      · exact ⟨by rw [List.length_append, List.length_cons, List.length_take, List.length_drop]; omega, .inr (.inr (.inl (two 4 (by decide) (by simp [knOf, h0, ha, hN]) (.inl ⟨rfl, rfl⟩))))⟩
      · exact ⟨by rw [List.length_append, List.length_cons, List.length_take, List.length_drop]; omega, .inr (.inr (.inl (two 5 (by decide) (by simp [knOf, h0, ha, hN]) (.inr (.inl ⟨rfl, rfl⟩)))))⟩
      · exact ⟨by have := hd2 (cL N); omega, .inr (.inr (.inl (two 6 (by decide) (by simp [knOf, h0, ha, hN]) (.inr (.inr (.inr (.inr (.inl ⟨rfl, rfl⟩))))))))⟩
      · exact ⟨by have := hd2 (cR N (ss.getD t []).length); omega, .inr (.inr (.inl (two 7 (by decide) (by simp [knOf, h0, ha, hN]) (.inr (.inr (.inr (.inr (.inr ⟨rfl, rfl⟩))))))))⟩
      · exact ⟨by rw [List.length_take]; omega, .inr (.inr (.inl (two 9 (by decide) (by simp [knOf, h0, ha, hN]) (.inr (.inr (.inl ⟨rfl, rfl⟩))))))⟩
      · exact ⟨by rw [List.length_drop]; omega, .inr (.inr (.inl (two 10 (by decide) (by simp [knOf, h0, ha, hN]) (.inr (.inr (.inr (.inl ⟨rfl, rfl⟩)))))))⟩
/-- what is written -/
theorem fin_eq {ws : List (List UInt8)} {r : Bool} {dest : List Pi} {ss ts : List (List UInt8)} (miss : Int) {os : List (List UInt8)} (hos : os.length = dest.length) (hd0 : dest ≠ []) (hrt : r = true ↔ ts ≠ []) (h62 : ∀ t ∈ dest.map written, t ≠ [62]) :
    finB (dstT dest r) (subs ws ss miss ws.length ++ ts) (fun j => os.getD j []) (knT dest r).length ((srcT ws r).length - 1) = jn 46 os ++ (if r = true then tailed ts else []) := by
  have hf : fwc (dstT dest r) = r := fwc_of h62 r
  have hrange : (List.range dest.length).map (fun j => os.getD j []) = os := by
    apply List.ext_getElem
    · simp [hos]
    · intro k h1 h2
      simp [List.getD, h2]
  have hos0 : os ≠ [] := fun e => by rw [e] at hos; exact hd0 (List.eq_nil_of_length_eq_zero hos.symm)
  have hdp : 0 < dest.length := List.length_pos_iff.2 hd0
  unfold finB
  rw [hf]
  cases r with
  | false =>
    rw [if_neg (by simp), if_neg (by simp), List.append_nil]
    have hk : (knT dest false).length = dest.length := by unfold knT; simp
    rw [hk, pc_all _ _ hdp, hrange]
  | true =>
    rw [if_pos rfl, if_pos rfl]
    have hk : (knT dest true).length = dest.length + 1 := by unfold knT; simp
    have hS : (srcT ws true).length - 1 = ws.length := by unfold srcT; simp
    have hdr : (subs ws ss miss ws.length ++ ts).drop ws.length = ts := by
      rw [List.drop_append_of_le_length (by rw [subs_len]; exact Nat.le_refl _), List.drop_of_length_le (by rw [subs_len]; exact Nat.le_refl _)]
      rfl
    rw [hk, hS, hdr, Nat.add_sub_cancel, pc_open _ _ _ (by omega) ts (hrt.1 rfl), hrange, jn_tailed _ _ hos0]
theorem md_map {ws : List (List UInt8)} {r : Bool} {dest : List Pi} {ss ts : List (List UInt8)} {miss : Int} {s1 to subj out : ByteArray} (hl : Ml ws dest ss ts) (h : MdFacts ws r dest ss ts miss s1 to subj out 0) (w : World) :
    Calls Tryd.prog 11 #[.string s1, .string to, .bool false, .string subj] w (MapPost out.data.toList w) := by
  have z := mz_of hl h
  obtain ⟨h1, hS0, hw, hst, hss, hts, hrt, hd0, hR, hsub, hkd, hto, ho⟩ := h
  obtain ⟨out0, ⟨os, hos, hput, rfl⟩, hout⟩ := ho rfl
  have hnm : ¬ missed ws miss ws.length := by
    rcases hkd with ⟨_, h9⟩ | ⟨h9, _⟩
    · exact h9
    · cases h9
  have pok : ∀ p ∈ dest, PieceOk p := fun p hp => piece_ok p ss.length hl.s0 (hl.d1 p hp) (hR p hp)
  have h62 : ∀ t ∈ dest.map written, t ≠ [62] := fun t ht => by
    obtain ⟨p, hp, rfl⟩ := List.mem_map.1 ht
    exact (pok p hp).n62
  have hs62 : ∀ t ∈ ws.map stT, t ≠ [62] := fun t ht => by
    obtain ⟨u, hu, rfl⟩ := List.mem_map.1 ht
    exact stT_62 hw hu
  have hm : mtc (subs ws ss miss ws.length ++ ts) (srcT ws r) = true := by
    obtain ⟨e1, e2⟩ := mtc_pre (ws.map stT) (subs ws ss miss ws.length) hs62 (by rw [subs_len, List.length_map])
    unfold srcT
    cases r with
    | false =>
      have : ts = [] := by
        apply Classical.byContradiction
        intro h9
        have := hrt.2 h9
        cases this
      rw [this, List.append_nil]
      simp only [Bool.false_eq_true, if_false, List.append_nil]
      rw [e1]; exact mtcL_hit hw hnm
    | true =>
      rw [if_pos rfl, e2 ts (hrt.1 rfl)]; exact mtcL_hit hw hnm
  have hmap := z.mx.map subj _ w z.ssz z.sub z.n z.wd z.l hm (fun j => os.getD j []) ?_ ?_
  · rw [fin_eq miss hos hd0 hrt h62, ← hout] at hmap
    exact hmap
  · intro j hj h9
    by_cases hjd : j < dest.length
    · exact out2_of hl hw hst hR hjd (hput j hjd hjd)
    · exact absurd (last_at hj hjd).2.2.2 h9
  · intro j hj h9
    by_cases hjd : j < dest.length
    · rw [dstT_at hjd] at h9
      exact absurd h9 (pok _ (List.getElem_mem hjd)).n62
    · rw [(last_at hj hjd).2.2.1]; rfl
theorem md_valid {ws : List (List UInt8)} {r : Bool} {dest : List Pi} {ss ts : List (List UInt8)} {miss : Int} {s1 to subj out : ByteArray} {k : Int} (hl : Ml ws dest ss ts) (h : MdFacts ws r dest ss ts miss s1 to subj out k) (w : World) :
    Calls Tryd.prog 12 #[.string s1, .string to] w (ValidPost w) := (mz_of hl h).mx.valid w
theorem md_miss {ws : List (List UInt8)} {r : Bool} {dest : List Pi} {ss ts : List (List UInt8)} {miss : Int} {s1 to subj out : ByteArray} (hl : Ml ws dest ss ts) (h : MdFacts ws r dest ss ts miss s1 to subj out 2) (w : World) (sn : Sn w) :
    Calls Tryd.prog 11 #[.string s1, .string to, .bool false, .string subj] w (KindPost 2 w) := by
  have z := mz_of hl h
  obtain ⟨h1, hS0, hw, hst, hss, hts, hrt, hd0, hR, hsub, hkd, hto, ho⟩ := h
  have hnm : missed ws miss ws.length := by
    rcases hkd with ⟨h9, _⟩ | ⟨_, h9⟩
    · cases h9
    · exact h9
  have hs62 : ∀ t ∈ ws.map stT, t ≠ [62] := fun t ht => by
    obtain ⟨u, hu, rfl⟩ := List.mem_map.1 ht
    exact stT_62 hw hu
  have hm : mtc (subs ws ss miss ws.length ++ ts) (srcT ws r) = false := by
    obtain ⟨e1, e2⟩ := mtc_pre (ws.map stT) (subs ws ss miss ws.length) hs62 (by rw [subs_len, List.length_map])
    unfold srcT
    cases r with
    | false =>
      have : ts = [] := by
        apply Classical.byContradiction
        intro h9
        have := hrt.2 h9
        cases this
      rw [this, List.append_nil]
      simp only [Bool.false_eq_true, if_false, List.append_nil]
      rw [e1]; exact mtcL_miss hw hnm
    | true =>
      rw [if_pos rfl, e2 ts (hrt.1 rfl)]; exact mtcL_miss hw hnm
  refine z.mx.miss subj _ w z.ssz z.sub z.n z.wd hm ?_ sn
  intro e
  have e2 := z.mx.hS
  rw [e] at e2
  have e3 : srcT ws r = [[62]] := e2.symm.trans rfl
  obtain ⟨i, hi, h0, _⟩ := hnm
  cases ws with
  | nil => simp at hi
  | cons u ws =>
    unfold srcT at e3
    rw [List.map_cons, List.cons_append] at e3
    injection e3 with e3 _
    exact stT_62 hw (by simp) e3
theorem md_strict {ws : List (List UInt8)} {r : Bool} {dest : List Pi} {ss ts : List (List UInt8)} {miss : Int} {s1 to subj out : ByteArray} {k : Int} (hl : Ml ws dest ss ts) (h : MdFacts ws r dest ss ts miss s1 to subj out k) (hlo : Loose dest ss.length) (w : World) (sn : Sn w) :
    Calls Tryd.prog 11 #[.string s1, .string to, .bool true, .string subj] w (KindPost 1 w) := by
  have z := mz_of hl h
  obtain ⟨h1, hS0, hw, hst, hss, hts, hrt, hd0, hR, hsub, hkd, hto, ho⟩ := h
  have hpw : pwcs (srcT ws r) = ss.length := by rw [pwcs_src hw, hst]
  have hpos : 0 < ss.length := by
    rcases hlo with ⟨p, hp, h2⟩ | h2
    · have h5 := hR p hp
      rcases h5 with ⟨h0, _⟩ | ⟨h0, g1, g2, _⟩ | ⟨h0, g1, g2⟩ | ⟨_, ⟨g1, g2⟩, _⟩ | ⟨_, ⟨g1, g2⟩, _⟩
      · omega
      · have := List.length_pos_iff.2 g1; omega
      · omega
      · omega
      · omega
    · omega
  refine z.mx.strict subj w (.inl (by rw [hpw]; exact hpos)) ?_ sn
  by_cases hb : ∃ p ∈ dest, 2 < p.fn
  · obtain ⟨p, hp, h2⟩ := hb
    obtain ⟨j, hj, rfl⟩ := List.mem_iff_getElem.1 hp
    have hjl : j < (knT dest r).length := by unfold knT; rw [List.length_append, List.length_map]; omega
    refine .inl ⟨j, hjl, ?_⟩
    rw [knT_at hj]
    have h5 := hR _ hp
    rcases h5 with ⟨h0, _⟩ | ⟨h0, _⟩ | ⟨h0, _⟩ | ⟨h0, _⟩ | ⟨h0, _⟩
    · omega
    · have ek : (knOf dest[j]).ty = 2 := by simp [knOf, h0, Kn.part]
      rw [ek]; exact ⟨by decide, by decide⟩
    · omega
    · have ek : (knOf dest[j]).ty = 8 := by simp [knOf, h0, Kn.cut]
      rw [ek]; exact ⟨by decide, by decide⟩
    · rcases h0 with h0 | h0 | h0 | h0 | h0 | h0 <;> (simp [knOf, h0, Kn.two])
  · have hn : named dest < ss.length := by
      rcases hlo with h9 | h9
      · exact absurd h9 hb
      · exact h9
    refine .inr ?_
    rw [hpw]
    have e : ∀ l : List Pi, (∀ p ∈ l, p.fn ≤ 2) → (∀ p ∈ l, p.Sm) → nph (l.map knOf) = named l := by
      intro l
      induction l with
      | nil => intro _ _; rfl
      | cons p l ih =>
        intro g1 g2
        have ih2 := ih (fun x hx => g1 x (by simp [hx])) (fun x hx => g2 x (by simp [hx]))
        unfold nph named at ih2 ⊢
        rw [List.map_cons, List.map_cons, List.sum_cons, ih2, List.countP_cons]
        have a := g1 p (by simp)
        have b := (g2 p (by simp)).f0
        have hc : p.fn = 0 ∨ p.fn = 1 ∨ p.fn = 2 := by omega
        rcases hc with hc | hc | hc
        · simp [knOf, hc, Kn.no]
        · simp [knOf, hc, Kn.wild]; omega
        · simp [knOf, hc, Kn.wild]; omega
    have e2 : nph (knT dest r) = nph (dest.map knOf) := by
      unfold nph knT
      rw [List.map_append, List.sum_append]
      cases r <;> simp [Kn.no]
    rw [e2, e dest (fun p hp => by
      apply Classical.byContradiction
      intro h9
      exact hb ⟨p, hp, by omega⟩) hl.d1]
    exact hn
end Go.Proofs.YtocfcajafkkhdaaDoor
end
