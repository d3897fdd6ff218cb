/-
  A map of what waits: one more, one fewer, one after the other.
-/
import Derived.Test.YtchphfdoneckeaaDoorPn
import Derived.Maps.Ext
namespace Go.Proofs.YtchphfdoneckeaaDoor
open Go.RowKit
open Cs (Wt Kp)

theorem key_isKey (s : Nat) : WideAt.IsKeyLit (key s) := trivial
theorem same_key {a b : Nat} : (key a).sameKey (key b) = decide (a = b) := by
  by_cases h : a = b
  · subst h; rw [WideAt.sameKey_self (key_isKey a)]; simp
  · rw [Maps.sameKey_ne (fun e => h (key_inj e))]; simp [h]
theorem run_makeMap_hint (w : World) (n : Int) : (Instr.makeMap 79 (some (.int .i64 n))).run Tryd.prog w = .ok (.map (some w.heap.size)) (w.alloc (.map #[] 0)) := by
  simp [Instr.makeMap, Tryd.runUnderlying79, asInt, Result.andThen]
  rfl
theorem run_makeMap_hint80 (w : World) (n : Int) : (Instr.makeMap 80 (some (.int .i64 n))).run Tryd.prog w = .ok (.map (some w.heap.size)) (w.alloc (.map #[] 0)) := by
  simp [Instr.makeMap, Tryd.runUnderlying80, asInt, Result.andThen]
  rfl

theorem PMap.empty {w : World} {b n : Nat} (h : w.ownsMap Tryd.prog 25 PtrE b n (.map [])) : PMap w b n (.map []) [] := ⟨h, by simp, by simp [Maps.has]⟩
/-- one more -/
theorem PMap.put {w w' : World} {b n n' p : Nat} {D : DataW Unit} {l l' : List Wt} {x : Wt} (h : PMap w b n D l) (ho : w'.ownsMap Tryd.prog 25 PtrE b n' (D.put (key x.s) (.lit (.int .u64 (p : Int)))))
    (hc : ∀ q y, PCell w q y → PCell w' q y) (hx : PCell w' p x) (hl : ∀ y, y ∈ l' ↔ y ∈ l ∨ y = x) (hn : ∀ y ∈ l, y.s ≠ x.s) : PMap w' b n' (D.put (key x.s) (.lit (.int .u64 (p : Int)))) l' := by
  refine ⟨ho, fun y hy => ?_, fun kl hk => ?_⟩
  · rcases (hl y).1 hy with hy | rfl
    · obtain ⟨q, h1, h2⟩ := h.at_ y hy
      exact ⟨q, fun z => by rw [Maps.atKey_put_other (fun e => hn y hy (key_inj e))]; exact h1 z, hc q y h2⟩
    · exact ⟨p, fun z => Maps.atKey_put_same h.own.isMap (key_isKey _) _ z, hx⟩
  · by_cases e : kl = key x.s
    · exact ⟨x, (hl x).2 (Or.inr rfl), e⟩
    · rw [Maps.has_put_other e] at hk
      obtain ⟨y, hy, e2⟩ := h.only kl hk
      exact ⟨y, (hl y).2 (Or.inl hy), e2⟩
/-- one fewer -/
theorem PMap.del {w w' : World} {b n : Nat} {D : DataW Unit} {l : List Wt} (h : PMap w b n D l) (s : Nat) (ho : w'.ownsMap Tryd.prog 25 PtrE b n (D.del (key s))) (hc : ∀ q y, PCell w q y → PCell w' q y) : PMap w' b n (D.del (key s)) (Cs.without l s) := by
  refine ⟨ho, fun y hy => ?_, fun kl hk => ?_⟩
  · obtain ⟨hy1, hy2⟩ := Cs.without_mem.1 hy
    obtain ⟨q, h1, h2⟩ := h.at_ y hy1
    exact ⟨q, fun z => by rw [Maps.atKey_del_other (fun e => hy2 (key_inj e))]; exact h1 z, hc q y h2⟩
  · by_cases e : kl = key s
    · rw [e, Maps.has_del_same] at hk; cases hk
    · rw [Maps.has_del_other e] at hk
      obtain ⟨y, hy, e2⟩ := h.only kl hk
      refine ⟨y, Cs.without_mem.2 ⟨hy, fun e3 => e (by rw [e2, e3])⟩, e2⟩
theorem pcell_but {S : Nat → Prop} {w w' : World} (hb : But S w w') (h93 : ∀ p cs f, S p → w.heap[p]? ≠ some (.cells cs 93 f)) {p : Nat} {x : Wt} (h : PCell w p x) : PCell w' p x :=
  (hb.block p (lt_of_heap h) (fun hs => h93 p _ _ hs h)).trans h
theorem pcell_grown {w w' : World} {row : Option Nat} (hg : w.grownBy w' row) (h93 : ∀ p cs f, row = some p → w.heap[p]? ≠ some (.cells cs 93 f)) {p : Nat} {x : Wt} (h : PCell w p x) : PCell w' p x :=
  (hg.block p (lt_of_heap h) (fun e => h93 p _ _ e.symm h)).trans h
theorem not93_map {w : World} {b n : Nat} {R : Value → Option (DataW Unit × List MemPlace)} {D : DataW Unit} (h : w.ownsMap Tryd.prog 25 R b n D) (cs : Array Value) (f : Nat × Nat) : w.heap[b]? ≠ some (.cells cs 93 f) := by
  obtain ⟨es, clock, hb, _⟩ := h
  rw [hb]
  intro e
  cases e
theorem not93_iter {w : World} {b r n cnt : Nat} {R : Value → Option (DataW Unit × List MemPlace)} {D : DataW Unit} {left : Lit → Bool} (h : w.ranges Tryd.prog 25 R b r n D left cnt) (cs : Array Value) (f : Nat × Nat) : w.heap[r]? ≠ some (.cells cs 93 f) := by
  obtain ⟨es, clock, since, seen, c0, _, _, _, _, hr, _⟩ := h
  rw [hr]
  intro e
  cases e

/-- those that no longer are to come -/
def come (l : List Wt) (left : Lit → Bool) : List Wt := l.filter (fun x => !left (key x.s))
theorem come_step {l : List Wt} (hu : Cs.Up l) {left : Lit → Bool} {x : Wt} (hx : x ∈ l) (hl : left (key x.s) = true) (y : Wt) : y ∈ come l (fun z => left z && !z.sameKey (key x.s)) ↔ y ∈ come l left ∨ y = x := by
  unfold come
  simp only [List.mem_filter, same_key]
  constructor
  · rintro ⟨h1, h2⟩
    by_cases e : y.s = x.s
    · exact Or.inr (Cs.up_inj hu h1 hx e)
    · left
      refine ⟨h1, ?_⟩
      cases hk : left (key y.s)
      · rfl
      · rw [hk] at h2; simp [e] at h2
  · rintro (⟨h1, h2⟩ | rfl)
    · refine ⟨h1, ?_⟩
      cases hk : left (key y.s)
      · simp
      · rw [hk] at h2; cases h2
    · exact ⟨hx, by simp⟩
theorem come_new {l : List Wt} {left : Lit → Bool} {x : Wt} (hl : left (key x.s) = true) : ∀ y ∈ come l left, y.s ≠ x.s := by
  intro y hy e
  have := (List.mem_filter.1 hy).2
  rw [e, hl] at this
  cases this
theorem come_end {l : List Wt} {left : Lit → Bool} (hl : ∀ k, left k = false) : come l left = l := by
  unfold come
  rw [List.filter_eq_self]
  intro x _
  rw [hl]; rfl
theorem come_start {l : List Wt} {D : DataW Unit} (h : ∀ x ∈ l, Maps.has D (key x.s) = true) : come l (Maps.has D) = [] := by
  unfold come
  rw [List.filter_eq_nil_iff]
  intro x hx
  rw [h x hx]; simp

/-- THE STEP over a map of what waits. -/
theorem wpList_next_pend (w : World) {ops : Array Oper} {rest : List Oper} {o : Oper} {a : Act} {Q : Exit → Act → World → Prop} (hg : o.guard = none) (it : Operand) (hop : o.op = Op.next it false) (b r n : Nat) (D : DataW Unit) (left : Lit → Bool) (cnt : Nat) (l : List Wt)
    (hit : a.eval it = .pointer (some ⟨r, 0, none⟩)) (hP : PMap w b n D l) (h : w.ranges Tryd.prog 25 PtrE b r n D left cnt) (hlh : ∀ kl, left kl = true → Maps.has D kl = true)
    (hDone : cnt = 0 → (∀ kl, left kl = false) → wpList Tryd.prog ops Q rest (a.put o.dst (.tuple #[.bool false])) w)
    (hMore : ∀ (x : Wt) (p : Nat) (w' : World) (cnt' : Nat), x ∈ l → PCell w p x → left (key x.s) = true → w'.ranges Tryd.prog 25 PtrE b r n D (fun z => left z && !z.sameKey (key x.s)) cnt' → cnt' < cnt →
      w.grownBy w' (some r) → w'.heap.size = w.heap.size → (Instr.entry (.pointer (some ⟨r, 0, none⟩))).run Tryd.prog w' = .ok (.tuple #[.int .u64 (x.s : Int), .pointer (some ⟨p, 0, none⟩)]) w' →
      wpList Tryd.prog ops Q rest (a.put o.dst (.tuple #[.bool true, .int .u64 (x.s : Int), .pointer (some ⟨p, 0, none⟩)])) w') :
    wpList Tryd.prog ops Q (o :: rest) a w := by
  refine wpList_next_ranges w hg it hop 25 K25 PtrE (Value.int .u64) (fun c : Option Nat => .pointer (c.map fun p => ⟨p, 0, none⟩)) (fun key kl hkey => by obtain ⟨x, rfl, _⟩ := Maps.keyOf_int_inv Tryd.underlying25 hkey; exact ⟨x, rfl⟩) (fun v y hv => ptrE_inv hv)
    b r n D left cnt hit h hDone (fun x c kl y w' cnt' hkey hlk hv hat hrg hlt hgr hsz hen => ?_)
  obtain ⟨x0, hx0, rfl⟩ := hP.only kl (hlh kl hlk)
  obtain ⟨x', ex, ek, hwx⟩ := Maps.keyOf_int_inv Tryd.underlying25 hkey
  cases ex
  unfold key at ek
  injection ek with _ ek
  subst ek
  obtain ⟨p, hp1, hp2⟩ := hP.at_ x0 hx0
  have hy : y.1 = .lit (.int .u64 (p : Int)) := (hat .nil).symm.trans (hp1 .nil)
  obtain ⟨y1, y2⟩ := y
  have hy : y1 = .lit (.int .u64 (p : Int)) := hy
  subst hy
  have hv' := ptrE_at hv
  have hv' : Value.pointer (c.map fun p => ⟨p, 0, none⟩) = .pointer (some ⟨p, 0, none⟩) := hv'
  rw [hv'] at hen ⊢
  exact hMore x0 p w' cnt' hx0 hp2 hlk hrg hlt hgr hsz hen
end Go.Proofs.YtchphfdoneckeaaDoor
