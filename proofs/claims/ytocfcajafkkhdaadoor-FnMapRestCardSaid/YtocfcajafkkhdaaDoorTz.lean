/-
  tokenizeSubject and tokenizeSubjectIntoSlice: a subject's tokens, in an array of 32 texts.
-/
import Derived.Test.YtocfcajafkkhdaaDoorMm
import Derived.ArgAppend
import Derived.Deep.WholeRow
import Derived.Deep.Cut
namespace Go.Proofs.YtocfcajafkkhdaaDoor
open Go.RowKit

/-- an array's first n cells -/
def ArrP (w : World) (g n : Nat) (xs : List Value) : Prop := ∃ (cur : Array Value) (t : TypeId), w.heap[g]? = some (.cells cur t (0, 0)) ∧ cur.size = 32 ∧ cur.toList.take n = xs ∧ xs.length = n
theorem ArrP.set {w : World} {g n : Nat} {xs : List Value} (h : ArrP w g n xs) (hn : n < 32) (u : Value) : ArrP (w.setCell ⟨g, n, none⟩ u) g (n + 1) (xs ++ [u]) := by
  obtain ⟨cur, t, h1, h2, h3, h4⟩ := h
  refine ⟨_, t, K.heap_setCell_at h1 u, by simp [h2], ?_, by simp [h4]⟩
  rw [Array.toList_setIfInBounds, List.take_succ_eq_append_getElem (by simp [h2, hn])]
  congr 1
  · rw [List.take_set_of_le (Nat.le_refl _), h3]
  · simp
theorem ArrP.lies {w : World} {g n : Nat} {xs : List Value} (h : ArrP w g n xs) : K.Lies w (some ⟨g, 0, none⟩) n (fun j => xs.getD j undef) := by
  intro hn
  obtain ⟨cur, t, h1, h2, h3, h4⟩ := h
  refine ⟨g, 0, rfl, lt_of h1, fun j hj => ?_⟩
  have : cur.toList[j]? = some (xs.getD j undef) := by
    have hx : xs[j]? = some (xs.getD j undef) := by rw [List.getD, List.getElem?_eq_getElem (by omega)]; rfl
    rw [← hx, ← h3, List.getElem?_take_of_lt hj]
  rw [Nat.zero_add]
  simpa [World.cell?, h1] using this
theorem wpList_app_arr {ops : Array Oper} {rest : List Oper} {o : Oper} {a : Act} {w : World} {Q : Exit → Act → World → Prop} (hgd : o.guard = none) (s x : Operand) (ho : o.op = .call { callee := .builtin .append, args := #[s, x], argTypes := #[22, 22] })
    (g n : Nat) (xs : List Value) (hs : a.eval s = .slice (some ⟨g, 0, none⟩) n 32) (hown : ArrP w g n xs) (gg c : Nat) (u : Value) (hx : a.eval x = .slice (some ⟨gg, 0, none⟩) 1 c) (hc : w.cell? ⟨gg, 0, none⟩ = some u) (h1 : u.oneCell' = true)
    (hn : n < 32) (h : ArrP (w.setCell ⟨g, n, none⟩ u) g (n + 1) (xs ++ [u]) → wpList Tryd.prog ops Q rest (a.put o.dst (.slice (some ⟨g, 0, none⟩) (n + 1) 32)) (w.setCell ⟨g, n, none⟩ u)) : wpList Tryd.prog ops Q (o :: rest) a w := by
  obtain ⟨i0, hi0, hz0, hz1, hz2⟩ := info_parts info9
  refine wpList_plain hgd fun K hK' => ?_
  have hnew := hown.set hn u
  obtain ⟨cur, t, b1, b2, b3, b4⟩ := hown
  have hrun := run_append_room_cells (P := Tryd.prog) w 22 o.type 9 i0 Tryd.underlying22 hi0 g 0 n 32 ⟨gg, 0, none⟩ 1 c [u] (by simp [hz1]) (fun j v hj => by
    match j, hj with
    | 0, hj => simp at hj; subst hj; rw [Addr.add_lit]; exact hc) (by intro v hv; simp at hv; subst hv; exact h1) (by omega)
    (fun j hj => by rw [hz1]; simp [World.cell?, b1, b2]; simp at hj; omega) (fun j hj => by simp [World.frozen?, b1])
  rw [hz1, Nat.mul_one, Nat.zero_add] at hrun
  have e2 : w.setCells g n [u] = w.setCell ⟨g, n, none⟩ u := rfl
  rw [e2] at hrun
  unfold Oper.wp
  simp [execOp, ho, resolve, invoke, builtin, hs, hx, hrun, Result.andThen]
  exact hK' _ _ (h hnew)

theorem z85 : (Tryd.prog.info? 85).map (fun i => match i.zero with | some (.agg cs) => cs.size == 32 && cs.all (fun v => match v with | .string s => s.size == 0 | _ => false) | _ => false) = some true := by kernel_rfl
theorem zero85 : ∃ cs : Array Value, cs.size = 32 ∧ (∀ v ∈ cs, ∃ s, v = .string s) ∧ ∀ w, (zeroValue 85).run Tryd.prog w = .ok (.agg cs) w := by
  have h := z85
  cases hi : Tryd.prog.info? 85 with
  | none => rw [hi] at h; cases h
  | some i =>
    rw [hi] at h
    simp only [Option.map_some, Option.some.injEq] at h
    split at h
    · rename_i cs hz
      rw [Bool.and_eq_true, Array.all_eq_true'] at h
      refine ⟨cs, by simpa using h.1, fun v hv => ?_, fun w => by simp [zeroValue, typeInfo, hi, hz]⟩
      have := h.2 v hv
      split at this
      · exact ⟨_, rfl⟩
      · cases this
    · cases h
theorem size85 : (Tryd.prog.info? 85).map (·.size) = some 32 := by kernel_rfl
/-- a new array of 32 texts is laid -/
theorem lay85 : ∃ cs : Array Value, cs.size = 32 ∧ (∀ w, (zeroValue 85).run Tryd.prog w = .ok (.agg cs) w) ∧ ∀ w : World, (storeCells ⟨w.heap.size, 0, none⟩ cs.toList 0).run Tryd.prog (w.alloc (.cells cs 85)) = .ok () (w.alloc (.cells cs 85)) := by
  obtain ⟨cs, h1, h2, h3⟩ := zero85
  refine ⟨cs, h1, h3, fun w => run_storeCells_new w 85 cs cs (by rw [h1]; exact size85) rfl ?_⟩
  rw [Array.all_eq_true']
  intro v hv
  obtain ⟨s, rfl⟩ := h2 v hv
  rfl
theorem ArrP.new (w : World) (cs : Array Value) (h : cs.size = 32) : ArrP (w.alloc (.cells cs 85)) w.heap.size 0 [] := ⟨cs, 85, K.heap_alloc_at w _, h, rfl, rfl⟩
end Go.Proofs.YtocfcajafkkhdaaDoor
