/-
  Plain mathematics of distinguished names: no program in sight. Attributes by key (the type in small letters, the value); equality of parts as the package has it (mutual inclusion) and as the reference has it (one inclusion); ancestors; the reading machine, step by step.
-/
namespace Go.Proofs.YtnjjhklefamaoaaDoor.Dn

abbrev Attr := ByteArray × ByteArray
def low (c : UInt8) : UInt8 := if 65 ≤ c ∧ c ≤ 90 then c + 32 else c
def lows (s : ByteArray) : List UInt8 := s.data.toList.map low
def key (a : Attr) : List UInt8 × ByteArray := (lows a.1, a.2)
def same (a b : Attr) : Bool := decide (key a = key b)
/-- the first list has the attribute -/
def has (l : List Attr) (a : Attr) : Bool := l.any (fun x => same x a)
/-- all of 'l' stand in 'r' -/
def hasAll (r l : List Attr) : Bool := l.all (has r)
def rdnEq (r o : List Attr) : Bool := decide (r.length = o.length) && (hasAll r o && hasAll o r)
def rdnSpec (a b : List Attr) : Bool := decide (a.length = b.length) && hasAll b a
/-- no attribute stands twice -/
def Once (l : List Attr) : Prop := l.Pairwise (fun x y => same x y = false)

theorem has_iff {l : List Attr} {a : Attr} : has l a = true ↔ key a ∈ l.map key := by
  simp only [has, List.any_eq_true, same, decide_eq_true_eq, List.mem_map]
theorem hasAll_iff {r l : List Attr} : hasAll r l = true ↔ ∀ k ∈ l.map key, k ∈ r.map key := by
  simp only [hasAll, List.all_eq_true, has_iff, List.mem_map]
  constructor
  · rintro h k ⟨a, ha, rfl⟩; exact h a ha
  · intro h a ha; exact h _ ⟨a, ha, rfl⟩

theorem sub_back {α : Type} [DecidableEq α] : ∀ (l o : List α), l.Nodup → (∀ x ∈ l, x ∈ o) → o.length ≤ l.length → ∀ y ∈ o, y ∈ l
  | [], o, _, _, h, y, hy => by
    have : o = [] := List.length_eq_zero_iff.1 (by simpa using h)
    subst this; cases hy
  | x :: l, o, hn, hs, hl, y, hy => by
    have hx : x ∈ o := hs x List.mem_cons_self
    obtain ⟨hx2, hn2⟩ := List.nodup_cons.1 hn
    by_cases hyx : y = x
    · subst hyx; exact List.mem_cons_self
    · have hlen : (o.erase x).length ≤ l.length := by
        rw [List.length_erase_of_mem hx]
        simp only [List.length_cons] at hl; omega
      have hsub : ∀ z ∈ l, z ∈ o.erase x := by
        intro z hz
        have hne : z ≠ x := fun e => hx2 (e ▸ hz)
        exact (List.mem_erase_of_ne hne).2 (hs z (List.mem_cons_of_mem _ hz))
      exact List.mem_cons_of_mem _ (sub_back l (o.erase x) hn2 hsub hlen y ((List.mem_erase_of_ne hyx).2 hy))

theorem nodup_of_once : ∀ {l : List Attr}, Once l → (l.map key).Nodup
  | [], _ => List.nodup_nil
  | x :: l, h => by
    obtain ⟨h1, h2⟩ := List.pairwise_cons.1 h
    rw [List.map_cons, List.nodup_cons]
    refine ⟨fun hm => ?_, nodup_of_once h2⟩
    obtain ⟨y, hy, e⟩ := List.mem_map.1 hm
    have := h1 y hy
    simp [same, e] at this

theorem rdnEq_spec {a b : List Attr} (ha : Once a) : rdnEq a b = rdnSpec a b := by
  unfold rdnEq rdnSpec
  by_cases hl : a.length = b.length
  · simp only [hl, decide_true, Bool.true_and]
    cases hb : hasAll b a with
    | false => simp
    | true =>
      rw [Bool.and_true, hasAll_iff]
      rw [hasAll_iff] at hb
      exact sub_back _ _ (nodup_of_once ha) hb (by simp [hl])
  · simp [hl]

theorem rdnEq_trans {a b c : List Attr} (h1 : rdnEq a b = true) (h2 : rdnEq b c = true) : rdnEq a c = true := by
  simp only [rdnEq, Bool.and_eq_true, decide_eq_true_eq, hasAll_iff] at *
  exact ⟨h1.1.trans h2.1, fun k hk => h1.2.1 k (h2.2.1 k hk), fun k hk => h2.2.2 k (h1.2.2 k hk)⟩
theorem rdnEq_refl (a : List Attr) : rdnEq a a = true := by
  simp [rdnEq, hasAll_iff]
theorem rdnEq_symm {a b : List Attr} (h : rdnEq a b = true) : rdnEq b a = true := by
  simp only [rdnEq, Bool.and_eq_true, decide_eq_true_eq] at *
  exact ⟨h.1.symm, h.2.2, h.2.1⟩

/-! ## Names -/
def allB (n : Nat) (p : Nat → Bool) : Bool := (List.range n).all p
theorem allB_iff {n : Nat} {p : Nat → Bool} : allB n p = true ↔ ∀ i, i < n → p i = true := by
  simp [allB]
theorem allB_false {n : Nat} {p : Nat → Bool} {i : Nat} (hi : i < n) (h : p i = false) : allB n p = false := by
  cases e : allB n p with
  | false => rfl
  | true => rw [allB_iff] at e; rw [e i hi] at h; cases h
theorem allB_congr {n : Nat} {p q : Nat → Bool} (h : ∀ i, i < n → p i = q i) : allB n p = allB n q := by
  rw [Bool.eq_iff_iff, allB_iff, allB_iff]
  exact ⟨fun hp i hi => by rw [← h i hi]; exact hp i hi, fun hp i hi => by rw [h i hi]; exact hp i hi⟩

abbrev Name := List (List Attr)
def at' (l : Name) (i : Nat) : List Attr := l.getD i []
def eqBy (f : List Attr → List Attr → Bool) (a b : Name) : Bool := decide (a.length = b.length) && allB a.length fun i => f (at' a i) (at' b i)
def eqDN (a b : Name) : Bool := eqBy rdnEq a b
/-- 'a' is an ancestor of 'b' -/
def ancBy (f : List Attr → List Attr → Bool) (a b : Name) : Bool := decide (a.length < b.length) && allB a.length fun i => f (at' a i) (at' b (b.length - a.length + i))
def anc (a b : Name) : Bool := ancBy rdnEq a b
def KnownAll (l : Name) : Prop := ∀ x ∈ l, Once x

theorem at_once {l : Name} (h : KnownAll l) (i : Nat) : Once (at' l i) := by
  unfold at'
  by_cases hi : i < l.length
  · have : l.getD i [] = l[i] := by simp [List.getD, hi]
    rw [this]; exact h _ (List.getElem_mem hi)
  · have : l.getD i [] = [] := by simp [List.getD, List.getElem?_eq_none (Nat.le_of_not_lt hi)]
    rw [this]; exact List.Pairwise.nil

theorem anc_spec {a b : Name} (ha : KnownAll a) : anc a b = ancBy rdnSpec a b := by
  unfold anc ancBy
  rw [allB_congr (fun i _ => rdnEq_spec (at_once ha i))]

theorem anc_trans {a b c : Name} (h1 : anc a b = true) (h2 : anc b c = true) : anc a c = true := by
  simp only [anc, ancBy, Bool.and_eq_true, decide_eq_true_eq, allB_iff] at *
  obtain ⟨l1, e1⟩ := h1
  obtain ⟨l2, e2⟩ := h2
  refine ⟨by omega, fun i hi => ?_⟩
  have x := e1 i hi
  have y := e2 (b.length - a.length + i) (by omega)
  rw [show c.length - b.length + (b.length - a.length + i) = c.length - a.length + i from by omega] at y
  exact rdnEq_trans x y
theorem anc_irrefl (a : Name) : anc a a = false := by simp [anc, ancBy]

/-! ## A name turned -/
def turnB (upper : Bool) (c : UInt8) : UInt8 := if upper = true ∧ 97 ≤ c ∧ c ≤ 122 then c - 32 else if upper = false ∧ 65 ≤ c ∧ c ≤ 90 then c + 32 else c
def turnA (upper : Bool) (a : Attr) : Attr := (⟨(a.1.data.toList.map (turnB upper)).toArray⟩, a.2)
def turnR (upper : Bool) (l : List Attr) : List Attr := l.reverse.map (turnA upper)
def turnN (upper : Bool) (l : Name) : Name := l.map (turnR upper)

theorem low_turn (u : Bool) (c : UInt8) : low (turnB u c) = low c := by
  have : ∀ (u : Bool) (n : Fin 256), low (turnB u (UInt8.ofNat n.val)) = low (UInt8.ofNat n.val) := by decide +kernel
  have h := this u ⟨c.toNat, c.toNat_lt⟩
  simpa using h
theorem key_turn (u : Bool) (a : Attr) : key (turnA u a) = key a := by
  unfold key turnA lows
  simp only [Prod.mk.injEq, and_true]
  rw [List.map_map]
  exact List.map_congr_left fun c _ => low_turn u c
theorem keys_turn (u : Bool) (l : List Attr) : (turnR u l).map key = (l.map key).reverse := by
  unfold turnR
  rw [List.map_map, show (key ∘ turnA u) = key from funext (key_turn u), List.map_reverse]
theorem rdnEq_turn (u : Bool) (l : List Attr) : rdnEq l (turnR u l) = true := by
  simp only [rdnEq, Bool.and_eq_true, decide_eq_true_eq, hasAll_iff, keys_turn, List.mem_reverse]
  exact ⟨by simp [turnR], fun k h => h, fun k h => h⟩
theorem at_turn (u : Bool) (l : Name) (i : Nat) : at' (turnN u l) i = turnR u (at' l i) := by
  unfold at' turnN
  by_cases hi : i < l.length
  · simp [List.getD, hi]
  · simp [List.getD, List.getElem?_eq_none (Nat.le_of_not_lt hi), turnR]
theorem eq_turn (u : Bool) (l : Name) : eqDN l (turnN u l) = true := by
  simp only [eqDN, eqBy, Bool.and_eq_true, decide_eq_true_eq, allB_iff]
  exact ⟨by simp [turnN], fun i _ => by rw [at_turn]; exact rdnEq_turn u _⟩
theorem eq_turn' (u : Bool) (l : Name) : eqDN (turnN u l) l = true := by
  simp only [eqDN, eqBy, Bool.and_eq_true, decide_eq_true_eq, allB_iff]
  exact ⟨by simp [turnN], fun i _ => by rw [at_turn]; exact rdnEq_symm (rdnEq_turn u _)⟩
theorem rdnEq_turned {u : Bool} {a b : List Attr} : rdnEq a (turnR u b) = rdnEq a b := by
  rw [Bool.eq_iff_iff]
  exact ⟨fun h => rdnEq_trans h (rdnEq_symm (rdnEq_turn u b)), fun h => rdnEq_trans h (rdnEq_turn u b)⟩
/-- no part stands twice -/
def Apart (l : Name) : Prop := KnownAll l ∧ ∀ i j, i < l.length → j < i → rdnSpec (at' l i) (at' l j) = false
theorem turned_one {u : Bool} {l : Name} (h : Apart l) (i j : Nat) (hi : i < l.length) (hj : j < l.length) : rdnEq (at' l i) (at' (turnN u l) j) = decide (i = j) := by
  rw [at_turn, rdnEq_turned]
  rcases Nat.lt_trichotomy i j with hij | hij | hij
  · rw [decide_eq_false (by omega)]
    have := h.2 j i hj hij
    rw [← rdnEq_spec (at_once h.1 j)] at this
    cases e : rdnEq (at' l i) (at' l j) with
    | false => rfl
    | true => rw [rdnEq_symm e] at this; cases this
  · subst hij; rw [decide_eq_true rfl]; exact rdnEq_refl _
  · rw [decide_eq_false (by omega), rdnEq_spec (at_once h.1 i)]
    exact h.2 i j hi hij
end Go.Proofs.YtnjjhklefamaoaaDoor.Dn
