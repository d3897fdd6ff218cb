/-
  What a transform holds in memory: rows of the call's own, of four element types, slices of whole numbers, and a map from a wildcard's number to its place.
-/
import Derived.Test.YtocfcajafkkhdaaDoorPh
import Derived.Test.YtocfcajafkkhdaaDoorSi
import Derived.Maps.OwnOps
import Derived.Maps.OwnSet
namespace Go.Proofs.YtocfcajafkkhdaaDoor
open Go.RowKit

/-! ## appending one element -/
theorem info82 : (Tryd.prog.info? 82).map (fun i => (i.zero, i.size, i.bytes)) = some (some (.int .i16 0), 1, 2) := by kernel_rfl
theorem info39 : (Tryd.prog.info? 39).map (fun i => (i.zero, i.size, i.bytes)) = some (some (.slice none 0 0), 1, 24) := by kernel_rfl
theorem info21 : (Tryd.prog.info? 21).map (fun i => (i.zero, i.size, i.bytes)) = some (some (.int .i32 0), 1, 4) := by kernel_rfl
theorem info3 : (Tryd.prog.info? 3).map (fun i => (i.zero, i.size, i.bytes)) = some (some (.int .i64 0), 1, 8) := by kernel_rfl
theorem wpList_app1 {t e : TypeId} {z : Value} {by_ : Nat} (hinfo : (Tryd.prog.info? e).map (fun i => (i.zero, i.size, i.bytes)) = some (some z, 1, by_)) (ht : Tryd.prog.underlying t = some (.slice e)) (hzs : z.cells.size = 1) (hby : by_ ≤ 100)
    {ops : Array Oper} {rest : List Oper} {o : Oper} {a : Act} {w : World} {Q : Exit → Act → World → Prop} (hgd : o.guard = none) (s x : Operand) (ho : o.op = .call { callee := .builtin .append, args := #[s, x], argTypes := #[t, t] })
    (base : Nat) (v : Value) (n : Nat) (xs : List Value) (hs : a.eval s = v) (hown : w.ownsRow base e 1 v n xs) (g c : Nat) (u : Value) (hx : a.eval x = .slice (some ⟨g, 0, none⟩) 1 c) (hc : w.cell? ⟨g, 0, none⟩ = some u) (h1 : u.oneCell' = true)
    (hn : n ≤ 100000) (hbase : base ≤ w.heap.size) (h : ∀ v' w', w'.ownsRow base e 1 v' (n + 1) (xs ++ [u]) → w.grownBy w' v.ownBlock → wpList Tryd.prog ops Q rest (a.put o.dst v') w') : wpList Tryd.prog ops Q (o :: rest) a w := by
  obtain ⟨i0, hi0, hz0, hz1, hz2⟩ := info_parts hinfo
  refine wpList_append_own _ hgd s x t ho base e i0 z 1 by_ ht hi0 hz0 hz1 hz2 hzs (by decide) v n xs hs hown ⟨g, 0, none⟩ 1 c [u] hx rfl ?_ (by intro u hu; simp at hu; subst hu; exact h1) (by unfold maxLen; omega)
    (Nat.le_trans (Nat.mul_le_mul (show n + 1 ≤ 100001 by omega) hby) (by decide)) hbase (fun v' w' h1 h2 _ => h v' w' h1 h2)
  intro j u hj
  match j, hj with
  | 0, hj =>
    simp at hj
    subst hj
    rw [Addr.add_lit]
    exact hc
theorem new_cell (w : World) (u : Value) (e : TypeId) : (w.alloc (.cells #[u] e)).cell? ⟨w.heap.size, 0, none⟩ = some u := by
  rw [World.cell?_alloc_at _ _ _ _ (by simp)]; rfl

/-! ## what stays -/
/-- all blocks stay but those of cells of this type -/
def Rest (e : TypeId) (w w' : World) : Prop := ∀ (b : Nat) (o : Obj), w.heap[b]? = some o → (∀ cs fz, o ≠ .cells cs e fz) → w'.heap[b]? = some o
theorem lt_of {w : World} {b : Nat} {o : Obj} (h : w.heap[b]? = some o) : b < w.heap.size := (Array.getElem?_eq_some_iff.1 h).1
theorem Rest.below {e : TypeId} {w w' : World} (h : Below w.heap.size w w') : Rest e w w' := fun b _ hb _ => (h.block b (lt_of hb)).trans hb
theorem Rest.trans {e : TypeId} {a b c : World} (h : Rest e a b) (k : Rest e b c) : Rest e a c := fun x o hx hn => k x o (h x o hx hn) hn
theorem row_block {w : World} {base : Nat} {e : TypeId} {u : Value} {z n : Nat} {ps : List Value} (h : w.ownsRow base e z u n ps) {g : Nat} (hg : u.ownBlock = some g) : ∃ cur, w.heap[g]? = some (.cells cur e (0, 0)) := by
  rcases h.2 with ⟨rfl, _⟩ | ⟨g', cap, cur, rfl, _, hb, _⟩
  · simp [Value.ownBlock] at hg
  · simp [Value.ownBlock] at hg
    subst hg
    exact ⟨cur, hb⟩
theorem row_move {w w' : World} {base base' : Nat} {e : TypeId} {u : Value} {z n : Nat} {ps : List Value} (h : w.ownsRow base e z u n ps) (hb : ∀ g, u.ownBlock = some g → base' ≤ g ∧ w'.heap[g]? = w.heap[g]?) : w'.ownsRow base' e z u n ps := by
  refine ⟨h.1, ?_⟩
  rcases h.2 with hn | ⟨g, cap, cur, rfl, _, hg, rest⟩
  · exact .inl hn
  · obtain ⟨h1, h2⟩ := hb g rfl
    exact .inr ⟨g, cap, cur, rfl, h1, h2.trans hg, rest⟩
theorem Rest.row {e t : TypeId} {w w' : World} {base : Nat} {u : Value} {z n : Nat} {ps : List Value} (hr : Rest e w w') (h : w.ownsRow base t z u n ps) (hne : t ≠ e) : w'.ownsRow base t z u n ps :=
  row_move h fun g hg => by
    obtain ⟨cur, hc⟩ := row_block h hg
    exact ⟨(h.lt g hg).1, (hr g _ hc (fun cs fz e2 => by injection e2 with _ e2 _; exact hne e2)).trans hc.symm⟩
/-- behind a new block, and an append to a row of that type -/
theorem Rest.app {e : TypeId} {w w' : World} {base z n : Nat} {u x : Value} {ps : List Value} (h : w.ownsRow base e z u n ps) (hg : (w.alloc (.cells #[x] e)).grownBy w' u.ownBlock) : Rest e w w' := by
  intro b o hb hn
  have hb2 : (w.alloc (.cells #[x] e)).heap[b]? = some o := (Below.heap_alloc _ _ _ (lt_of hb)).trans hb
  refine (hg.block b (lt_of hb2) (fun e2 => ?_)).trans hb2
  obtain ⟨cur, hc⟩ := row_block h e2.symm
  rw [hb] at hc
  exact hn _ _ (Option.some.inj hc)

/-! ## slices of whole numbers -/
def Ints (w : World) (v : Value) (zs : List Int) : Prop :=
  ∃ (g c : Nat) (cur : Array Value) (fz : Nat × Nat), v = .slice (some ⟨g, 0, none⟩) zs.length c ∧ zs.length ≤ c ∧ w.heap[g]? = some (.cells cur 3 fz) ∧ ∀ j, j < zs.length → cur[j]? = some (.int .i64 (zs.getD j 0))
theorem Ints.keep {w w' : World} {v : Value} {zs : List Int} (h : Ints w v zs) {e : TypeId} (hr : Rest e w w') (hne : (3 : TypeId) ≠ e) : Ints w' v zs := by
  obtain ⟨g, c, cur, fz, h1, h2, h3, h4⟩ := h
  exact ⟨g, c, cur, fz, h1, h2, hr g _ h3 (fun cs fz e2 => by injection e2 with _ e2 _; exact hne e2), h4⟩
theorem Ints.below {w w' : World} {v : Value} {zs : List Int} (h : Ints w v zs) (hb : Below w.heap.size w w') : Ints w' v zs := by
  obtain ⟨g, c, cur, fz, h1, h2, h3, h4⟩ := h
  exact ⟨g, c, cur, fz, h1, h2, (hb.block g (lt_of h3)).trans h3, h4⟩
theorem Ints.lies {w : World} {v : Value} {zs : List Int} (h : Ints w v zs) : ∃ g c, v = .slice (some ⟨g, 0, none⟩) zs.length c ∧ g < w.heap.size ∧ ∀ j, j < zs.length → w.cell? ⟨g, j, none⟩ = some (.int .i64 (zs.getD j 0)) := by
  obtain ⟨g, c, cur, fz, h1, h2, h3, h4⟩ := h
  exact ⟨g, c, h1, lt_of h3, fun j hj => by simp [World.cell?, h3, h4 j hj]⟩
theorem Ints.new (w : World) (z : Int) : Ints (w.alloc (.cells #[.int .i64 z] 3)) (.slice (some ⟨w.heap.size, 0, none⟩) 1 1) [z] :=
  ⟨_, _, _, _, rfl, Nat.le_refl _, K.heap_alloc_at w _, fun j hj => by
    obtain rfl : j = 0 := by simp at hj; omega
    rfl⟩
theorem Ints.of_row {w : World} {base : Nat} {v : Value} {zs : List Int} (h : w.ownsRow base 3 1 v zs.length (zs.map (Value.int .i64))) (hne : zs ≠ []) : Ints w v zs := by
  have hp : 0 < zs.length := List.length_pos_iff.2 hne
  rcases h.2 with ⟨_, hn⟩ | ⟨g, cap, cur, rfl, hb, hg, hnc, _, _, htake⟩
  · omega
  · refine ⟨g, cap, cur, _, rfl, hnc, hg, fun j hj => ?_⟩
    have hx : (zs.map (Value.int .i64))[j]? = some (.int .i64 (zs.getD j 0)) := by simp [List.getD, hj]
    have := h.cells (g := g) rfl j _ hx
    rw [Addr.add_lit] at this
    simpa [World.cell?, hg] using this

/-! ## the map from a wildcard's number to its place -/
def ik (n : Int) : Lit := .int .i64 n
def StiP (w : World) (b : Nat) (ps : List Nat) : Prop :=
  ∃ D : DataW Unit, w.ownsMap Tryd.prog 3 (plainElem Tryd.prog 3) b ps.length D ∧ Maps.size D = ps.length ∧ (∀ i, i < ps.length → ∀ z, D.atKey (ik ((i : Int) + 1)) z = .lit (.int .i64 ((ps.getD i 0 : Nat) : Int))) ∧
    ∀ kl, Maps.has D kl = true → ∃ i, i < ps.length ∧ kl = ik ((i : Int) + 1)
theorem K3 : Maps.Keyed Tryd.prog 3 := Maps.int_keyed Tryd.underlying3
theorem StiP.new (w : World) : StiP (w.alloc (.map #[] 0)) w.heap.size [] := ⟨.map [], World.ownsMap_made _ _ _ _, rfl, fun i hi => by simp at hi, fun kl h => by simp [Maps.has] at h⟩
theorem StiP.move {w w' : World} {b : Nat} {ps : List Nat} (h : StiP w b ps) (hb : w'.heap[b]? = w.heap[b]?) : StiP w' b ps := by
  obtain ⟨D, ⟨es, clock, hm, r⟩, r2⟩ := h
  exact ⟨D, ⟨es, clock, hb.trans hm, r⟩, r2⟩
theorem StiP.lt {w : World} {b : Nat} {ps : List Nat} (h : StiP w b ps) : b < w.heap.size := by
  obtain ⟨D, h1, _⟩ := h
  exact h1.lt
theorem StiP.rest {e : TypeId} {w w' : World} {b : Nat} {ps : List Nat} (h : StiP w b ps) (hr : Rest e w w') : StiP w' b ps := by
  refine h.move ?_
  obtain ⟨D, ⟨es, clock, hm, r⟩, r2⟩ := h
  rw [hm]
  exact hr b _ hm (fun cs fz e2 => by cases e2)
theorem ik_key {n : Nat} (h : n ≤ 100000) : keyOf Tryd.prog 3 (.int .i64 ((n : Int) + 1)) = some (ik ((n : Int) + 1)) := Maps.keyOf_int_mk Tryd.underlying3 (by simp [Lit.wf, IntKind.min, IntKind.max, IntKind.signed, IntKind.bits]; omega)
theorem ik_inj {a b : Int} (h : ik a = ik b) : a = b := by unfold ik at h; injection h
theorem ik_is (n : Int) : WideAt.IsKeyLit (ik n) := by unfold ik; simp [WideAt.IsKeyLit]
theorem StiP.put {w w' : World} {b : Nat} {ps : List Nat} {D : DataW Unit} (h1 : w.ownsMap Tryd.prog 3 (plainElem Tryd.prog 3) b ps.length D) (h2 : Maps.size D = ps.length)
    (h3 : ∀ i, i < ps.length → ∀ z, D.atKey (ik ((i : Int) + 1)) z = .lit (.int .i64 ((ps.getD i 0 : Nat) : Int))) (h4 : ∀ kl, Maps.has D kl = true → ∃ i, i < ps.length ∧ kl = ik ((i : Int) + 1)) (p : Nat)
    (h : w'.ownsMap Tryd.prog 3 (plainElem Tryd.prog 3) b (ps.length + 1) (D.put (ik ((ps.length : Int) + 1)) (.lit (.int .i64 (p : Int))))) : StiP w' b (ps ++ [p]) := by
  have hno : Maps.has D (ik ((ps.length : Int) + 1)) = false := by
    cases hh : Maps.has D (ik ((ps.length : Int) + 1)) with
    | false => rfl
    | true =>
      obtain ⟨i, hi, e⟩ := h4 _ hh
      have := ik_inj e
      omega
  refine ⟨_, by rw [List.length_append]; exact h, ?_, fun i hi z => ?_, fun kl hk => ?_⟩
  · rw [Maps.size_put (h1.tidy K3), hno, if_neg (by simp), h2]; simp
  · rw [List.length_append, List.length_singleton] at hi
    rcases Nat.lt_or_ge i ps.length with hl | hl
    · rw [Maps.atKey_put_other (fun e => by have := ik_inj e; omega), h3 i hl z]
      simp [List.getD, List.getElem?_append_left hl]
    · obtain rfl : i = ps.length := by omega
      rw [Maps.atKey_put_same h1.isMap (ik_is _)]
      simp [List.getD]
  · rw [List.length_append, List.length_singleton]
    by_cases e : kl = ik ((ps.length : Int) + 1)
    · exact ⟨ps.length, by omega, e⟩
    · rw [Maps.has_put_other e] at hk
      obtain ⟨i, hi, e2⟩ := h4 kl hk
      exact ⟨i, by omega, e2⟩
end Go.Proofs.YtocfcajafkkhdaaDoor
