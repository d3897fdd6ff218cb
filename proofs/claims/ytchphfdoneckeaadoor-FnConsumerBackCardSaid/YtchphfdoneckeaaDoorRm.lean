/-
  A map of what was delivered again: numbers to numbers; one more, one after the other.
-/
import Derived.Test.YtchphfdoneckeaaDoorPr
namespace Go.Proofs.YtchphfdoneckeaaDoor.Cs
/-- a message that was delivered again: its number in the stream, how often -/
structure Ag where
  s : Nat
  n : Nat
deriving DecidableEq
def AUp (l : List Ag) : Prop := l.Pairwise (fun a b => a.s < b.s)
theorem aup_sub {l l' : List Ag} (h : l'.Sublist l) (hu : AUp l) : AUp l' := hu.sublist h
theorem aup_inj {l : List Ag} (h : AUp l) {a b : Ag} (ha : a ∈ l) (hb : b ∈ l) (he : a.s = b.s) : a = b := by
  induction l with
  | nil => cases ha
  | cons x l ih =>
    obtain ⟨h1, h2⟩ := List.pairwise_cons.1 h
    rcases List.mem_cons.1 ha with rfl | ha'
    · rcases List.mem_cons.1 hb with rfl | hb'
      · rfl
      · have := h1 b hb'; omega
    · rcases List.mem_cons.1 hb with rfl | hb'
      · have := h1 a ha'; omega
      · exact ih h2 ha' hb'
theorem aup_nodup {l : List Ag} (h : AUp l) : l.Nodup := h.imp (fun {a b} hab e => by subst e; omega)
end Go.Proofs.YtchphfdoneckeaaDoor.Cs
namespace Go.Proofs.YtchphfdoneckeaaDoor
open Go.RowKit
open Cs (Ag)

/-- a number, as a map's element -/
noncomputable abbrev NumE : Value → Option (DataW Unit × List MemPlace) := Go.plainElem Tryd.prog 25
theorem numE {a : Nat} (h : a < 18446744073709551616) : NumE (.int .u64 (a : Int)) = some (.lit (key a), []) := Go.plainElem_int Tryd.underlying25 (key_wf h)
/-- the map block b holds just those on the list -/
structure RMap (w : World) (b n : Nat) (D : DataW Unit) (l : List Ag) : Prop where
  own : w.ownsMap Tryd.prog 25 NumE b n D
  at_ : ∀ x ∈ l, ∀ z, D.atKey (key x.s) z = .lit (key x.n)
  only : ∀ kl, Maps.has D kl = true → ∃ x ∈ l, kl = key x.s
def Redel (w : World) (rv : Value) (n : Nat) (l : List Ag) : Prop := (rv = .map none ∧ l = []) ∨ ∃ b D, rv = .map (some b) ∧ RMap w b n D l
theorem RMap.has_of {w : World} {b n : Nat} {D : DataW Unit} {l : List Ag} (h : RMap w b n D l) {x : Ag} (hx : x ∈ l) : Maps.has D (key x.s) = true := Maps.has_true_of_atKey (h.at_ x hx)
theorem RMap.move {w w' : World} {b n : Nat} {D : DataW Unit} {l : List Ag} (h : RMap w b n D l) (ho : w'.ownsMap Tryd.prog 25 NumE b n D) : RMap w' b n D l := ⟨ho, h.at_, h.only⟩
theorem RMap.but {S : Nat → Prop} {w w' : World} {b n : Nat} {D : DataW Unit} {l : List Ag} (h : RMap w b n D l) (hb : But S w w') (hS : ¬ S b) : RMap w' b n D l := by
  refine h.move ?_
  have hlt := h.own.lt
  obtain ⟨es, clock, hm, r⟩ := h.own
  exact ⟨es, clock, (hb.block b hlt hS).trans hm, r⟩
theorem RMap.mono {w : World} {b n n' : Nat} {D : DataW Unit} {l : List Ag} (h : RMap w b n D l) (hn : n ≤ n') : RMap w b n' D l := ⟨h.own.mono hn, h.at_, h.only⟩
theorem Redel.but {S : Nat → Prop} {w w' : World} {rv : Value} {n : Nat} {l : List Ag} (h : Redel w rv n l) (hb : But S w w') (hF : ∀ b, rv = .map (some b) → ¬ S b) : Redel w' rv n l := by
  rcases h with ⟨h1, h2⟩ | ⟨b, D, rfl, hp⟩
  · exact Or.inl ⟨h1, h2⟩
  · exact Or.inr ⟨b, D, rfl, hp.but hb (hF b rfl)⟩
theorem RMap.size_pos {w : World} {b n : Nat} {D : DataW Unit} {l : List Ag} (h : RMap w b n D l) : (Maps.size D = 0 ↔ l = []) := by
  obtain ⟨es, rfl, _, hk⟩ := h.own.entries K25
  constructor
  · intro h0
    cases es with
    | nil =>
      cases l with
      | nil => rfl
      | cons x l => have := h.has_of (x := x) (by simp); simp [Maps.has] at this
    | cons e es => simp [Maps.size] at h0
  · rintro rfl
    cases es with
    | nil => rfl
    | cons e es =>
      obtain ⟨x, hx, _⟩ := h.only e.1 (by simp only [Maps.has, List.any_cons, WideAt.sameKey_self (hk e (by simp)), Bool.true_or])
      cases hx
theorem RMap.empty {w : World} {b n : Nat} (h : w.ownsMap Tryd.prog 25 NumE b n (.map [])) : RMap w b n (.map []) [] := ⟨h, by simp, by simp [Maps.has]⟩
/-- one more -/
theorem RMap.put {w w' : World} {b n n' : Nat} {D : DataW Unit} {l l' : List Ag} {x : Ag} (h : RMap w b n D l) (ho : w'.ownsMap Tryd.prog 25 NumE b n' (D.put (key x.s) (.lit (key x.n))))
    (hl : ∀ y, y ∈ l' ↔ y ∈ l ∨ y = x) (hn : ∀ y ∈ l, y.s ≠ x.s) : RMap w' b n' (D.put (key x.s) (.lit (key x.n))) l' := by
  refine ⟨ho, fun y hy z => ?_, fun kl hk => ?_⟩
  · rcases (hl y).1 hy with hy | rfl
    · rw [Maps.atKey_put_other (fun e => hn y hy (key_inj e))]; exact h.at_ y hy z
    · exact Maps.atKey_put_same h.own.isMap (key_isKey _) _ z
  · by_cases e : kl = key x.s
    · exact ⟨x, (hl x).2 (Or.inr rfl), e⟩
    · rw [Maps.has_put_other e] at hk
      obtain ⟨y, hy, e2⟩ := h.only kl hk
      exact ⟨y, (hl y).2 (Or.inl hy), e2⟩
/-- those that no longer are to come -/
def comeA (l : List Ag) (left : Lit → Bool) : List Ag := l.filter (fun x => !left (key x.s))
theorem comeA_step {l : List Ag} (hu : Cs.AUp l) {left : Lit → Bool} {x : Ag} (hx : x ∈ l) (hl : left (key x.s) = true) (y : Ag) : y ∈ comeA l (fun z => left z && !z.sameKey (key x.s)) ↔ y ∈ comeA l left ∨ y = x := by
  unfold comeA
  simp only [List.mem_filter, same_key]
  constructor
  · rintro ⟨h1, h2⟩
    by_cases e : y.s = x.s
    · exact Or.inr (Cs.aup_inj hu h1 hx e)
    · left
      refine ⟨h1, ?_⟩
      cases hk : left (key y.s)
      · rfl
      · rw [hk] at h2; simp [e] at h2
  · rintro (⟨h1, h2⟩ | rfl)
    · refine ⟨h1, ?_⟩
      cases hk : left (key y.s)
      · simp
      · rw [hk] at h2; cases h2
    · exact ⟨hx, by simp⟩
theorem comeA_new {l : List Ag} {left : Lit → Bool} {x : Ag} (hl : left (key x.s) = true) : ∀ y ∈ comeA l left, y.s ≠ x.s := by
  intro y hy e
  have := (List.mem_filter.1 hy).2
  rw [e, hl] at this
  cases this
theorem comeA_end {l : List Ag} {left : Lit → Bool} (hl : ∀ k, left k = false) : comeA l left = l := by
  unfold comeA
  rw [List.filter_eq_self]
  intro x _
  rw [hl]; rfl
theorem comeA_start {l : List Ag} {D : DataW Unit} (h : ∀ x ∈ l, Maps.has D (key x.s) = true) : comeA l (Maps.has D) = [] := by
  unfold comeA
  rw [List.filter_eq_nil_iff]
  intro x hx
  rw [h x hx]; simp
theorem comeA_length (l : List Ag) (left : Lit → Bool) : (comeA l left).length ≤ l.length := List.length_filter_le _ _
theorem comeA_nodup {l : List Ag} (h : Cs.AUp l) (left : Lit → Bool) : (comeA l left).Nodup := Cs.aup_nodup (Cs.aup_sub List.filter_sublist h)
theorem permA_step {l xs : List Ag} (hu : Cs.AUp l) {left : Lit → Bool} {x : Ag} (hp : xs.Perm (comeA l left)) (hx : x ∈ l) (hl : left (key x.s) = true) : (xs ++ [x]).Perm (comeA l (fun z => left z && !z.sameKey (key x.s))) := by
  have hn := comeA_nodup hu left
  have hxn : x ∉ xs := fun h => comeA_new hl x (hp.mem_iff.1 h) rfl
  refine (List.perm_ext_iff_of_nodup ?_ (comeA_nodup hu _)).2 fun a => ?_
  · rw [List.nodup_append]
    exact ⟨hp.nodup_iff.2 hn, by simp, fun a ha b hb e => by simp at hb; subst hb; subst e; exact hxn ha⟩
  · rw [comeA_step hu hx hl, List.mem_append, hp.mem_iff]; simp

/-- THE STEP over a map of what was delivered again. -/
theorem wpList_next_redel (w : World) {ops : Array Oper} {rest : List Oper} {o : Oper} {a : Act} {Q : Exit → Act → World → Prop} (hg : o.guard = none) (it : Operand) (hop : o.op = Op.next it false) (b r n : Nat) (D : DataW Unit) (left : Lit → Bool) (cnt : Nat) (l : List Ag)
    (hit : a.eval it = .pointer (some ⟨r, 0, none⟩)) (hP : RMap w b n D l) (h : w.ranges Tryd.prog 25 NumE b r n D left cnt) (hlh : ∀ kl, left kl = true → Maps.has D kl = true)
    (hDone : cnt = 0 → (∀ kl, left kl = false) → wpList Tryd.prog ops Q rest (a.put o.dst (.tuple #[.bool false])) w)
    (hMore : ∀ (x : Ag) (w' : World) (cnt' : Nat), x ∈ l → left (key x.s) = true → w'.ranges Tryd.prog 25 NumE b r n D (fun z => left z && !z.sameKey (key x.s)) cnt' → cnt' < cnt →
      w.grownBy w' (some r) → w'.heap.size = w.heap.size → (Instr.entry (.pointer (some ⟨r, 0, none⟩))).run Tryd.prog w' = .ok (.tuple #[.int .u64 (x.s : Int), .int .u64 (x.n : Int)]) w' →
      wpList Tryd.prog ops Q rest (a.put o.dst (.tuple #[.bool true, .int .u64 (x.s : Int), .int .u64 (x.n : Int)])) w') :
    wpList Tryd.prog ops Q (o :: rest) a w := by
  refine wpList_next_ranges_ii w hg it hop 25 25 .u64 .u64 K25 Tryd.underlying25 Tryd.underlying25 b r n D left cnt hit h hDone (fun x c w' cnt' hwx hwc hlk hat hrg hlt hgr hsz hen => ?_)
  obtain ⟨x0, hx0, e⟩ := hP.only _ (hlh _ hlk)
  unfold key at e
  injection e with _ e
  subst e
  have hc := (hat .nil).symm.trans (hP.at_ x0 hx0 .nil)
  unfold key at hc
  injection hc with hc
  injection hc with _ hc
  subst hc
  exact hMore x0 w' cnt' hx0 hlk hrg hlt hgr hsz hen
end Go.Proofs.YtchphfdoneckeaaDoor
