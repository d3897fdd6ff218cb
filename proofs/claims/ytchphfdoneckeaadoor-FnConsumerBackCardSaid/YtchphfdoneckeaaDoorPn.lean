/-
  A consumer's store in memory: its row, the map of what waits, the map of what was delivered again; what is as it was but for some blocks.
-/
import Derived.Test.YtchphfdoneckeaaDoorKit
import Derived.Test.YtchphfdoneckeaaDoorMu
import Derived.Test.YtchphfdoneckeaaDoorCm
import Derived.Maps.OwnSet
import Derived.Maps.RangeWalk
namespace Go.Proofs.YtchphfdoneckeaaDoor
open Go.RowKit
open Cs (Wt Kp)

/-! ## what is as it was but for some blocks -/
structure But (S : Nat → Prop) (w w' : World) : Prop where
  os : w'.os = w.os
  tape : w'.tape = w.tape
  output : w'.output = w.output
  size : w.heap.size ≤ w'.heap.size
  block : ∀ k, k < w.heap.size → ¬ S k → w'.heap[k]? = w.heap[k]?
theorem But.refl (S : Nat → Prop) (w : World) : But S w w := ⟨rfl, rfl, rfl, Nat.le_refl _, fun _ _ _ => rfl⟩
theorem But.trans {S : Nat → Prop} {a b c : World} (h : But S a b) (h2 : But S b c) : But S a c :=
  ⟨h2.os.trans h.os, h2.tape.trans h.tape, h2.output.trans h.output, Nat.le_trans h.size h2.size, fun k hk hs => (h2.block k (Nat.lt_of_lt_of_le hk h.size) hs).trans (h.block k hk hs)⟩
theorem But.mono {S T : Nat → Prop} {a b : World} (h : But S a b) (hst : ∀ k, k < a.heap.size → S k → T k) : But T a b := ⟨h.os, h.tape, h.output, h.size, fun k hk hs => h.block k hk (fun hS => hs (hst k hk hS))⟩
/-- what comes behind may also turn what is new -/
theorem But.then {S T : Nat → Prop} {a b c : World} (h : But S a b) (h2 : But T b c) (hst : ∀ k, k < a.heap.size → T k → S k) : But S a c :=
  ⟨h2.os.trans h.os, h2.tape.trans h.tape, h2.output.trans h.output, Nat.le_trans h.size h2.size, fun k hk hs => (h2.block k (Nat.lt_of_lt_of_le hk h.size) (fun hT => hs (hst k hk hT))).trans (h.block k hk hs)⟩
theorem But.below {B : Nat} {S : Nat → Prop} {a b c : World} (h : Below B a b) (h2 : But S b c) (hB : ∀ k, S k → B ≤ k) (hs : B ≤ b.heap.size) : Below B a c :=
  ⟨h2.os.trans h.os, h2.tape.trans h.tape, h2.output.trans h.output, Nat.le_trans h.size h2.size, fun k hk => (h2.block k (by omega) (fun hS => by have := hB k hS; omega)).trans (h.block k hk)⟩
theorem But.of {S : Nat → Prop} {a b : World} (h : Below a.heap.size a b) : But S a b := ⟨h.os, h.tape, h.output, h.size, fun k hk _ => h.block k hk⟩
theorem But.alloc {S : Nat → Prop} {a b : World} (h : But S a b) (o : Obj) : But S a (b.alloc o) := h.trans (But.of ((Below.refl _ b).alloc (Nat.le_refl _) o))
theorem But.setCell {S : Nat → Prop} {a b : World} (h : But S a b) (p : Addr) (v : Value) (hp : p.block < a.heap.size → S p.block) : But S a (b.setCell p v) := by
  refine ⟨h.os, h.tape, h.output, by simpa using h.size, fun k hk hs => ?_⟩
  rw [Below.heap_setCell _ _ _ _ (fun e : k = p.block => hs (by rw [e]; exact hp (e ▸ hk)))]
  exact h.block k hk hs
theorem But.drewN {S : Nat → Prop} {a b : World} (h : But S a b) (n : Nat) : But S a (b.drewN n) := ⟨h.os, h.tape, h.output, h.size, h.block⟩
theorem But.drew {S : Nat → Prop} {a b : World} (h : But S a b) : But S a b.drew := ⟨h.os, h.tape, h.output, h.size, h.block⟩
theorem But.grown {S : Nat → Prop} {a b c : World} {row : Option Nat} (h : But S a b) (hg : b.grownBy c row) (hr : ∀ k, row = some k → k < a.heap.size → S k) : But S a c :=
  ⟨hg.os.trans h.os, hg.tape.trans h.tape, hg.output.trans h.output, Nat.le_trans h.size hg.size, fun k hk hs => (hg.block k (Nat.lt_of_lt_of_le hk h.size) (fun e => hs (hr k e.symm hk))).trans (h.block k hk hs)⟩
theorem But.grownBy {S : Nat → Prop} {a b : World} {row : Option Nat} (h : But S a b) (hS : ∀ k, S k → row = some k) : a.grownBy b row :=
  ⟨h.os, h.tape, h.output, h.size, fun k hk hne => h.block k hk (fun hs => hne (hS k hs).symm)⟩

/-! ## blocks of cells -/
theorem cell_of {w : World} {b i : Nat} {cs : Array Value} {t : TypeId} {f : Nat × Nat} {v : Value} (h : w.heap[b]? = some (.cells cs t f)) (hv : cs[i]? = some v) : w.cell? ⟨b, i, none⟩ = some v := by simp [World.cell?, h, hv]
theorem thawed {w : World} {b : Nat} {cs : Array Value} {t : TypeId} (h : w.heap[b]? = some (.cells cs t (0, 0))) (i : Nat) : w.frozen? ⟨b, i, none⟩ = false := by simp [World.frozen?, h]
theorem lt_of_heap {w : World} {b : Nat} {o : Obj} (h : w.heap[b]? = some o) : b < w.heap.size := (Array.getElem?_eq_some_iff.1 h).1
theorem ne_of_heap {w : World} {b c : Nat} {o o' : Obj} (h : w.heap[b]? = some o) (h' : w.heap[c]? = some o') (hne : o ≠ o') : b ≠ c := by
  rintro rfl
  rw [h] at h'
  exact hne (Option.some.inj h')

/-! ## keys and pointers -/
def key (s : Nat) : Lit := .int .u64 (s : Int)
theorem key_wf {s : Nat} (h : s < 18446744073709551616) : (key s).wf = true := by simp [key, Lit.wf, IntKind.min, IntKind.max, IntKind.signed, IntKind.bits]; omega
theorem key_of {s : Nat} (h : s < 18446744073709551616) : keyOf Tryd.prog 25 (.int .u64 (s : Int)) = some (key s) := Maps.keyOf_int_mk Tryd.underlying25 (key_wf h)
theorem key_inj {a b : Nat} (h : key a = key b) : a = b := by
  unfold key at h
  injection h with _ h
  exact Int.ofNat.inj h
theorem K25 : Maps.Keyed Tryd.prog 25 := Maps.int_keyed Tryd.underlying25
/-- a pointer, as a map's element -/
def PtrE : Value → Option (DataW Unit × List MemPlace)
  | .pointer none => some (.nil, [])
  | .pointer (some ⟨b, 0, none⟩) => some (.lit (.int .u64 (b : Int)), [])
  | _ => none
theorem ptrE_at {v : Value} {p : Nat} {ps : List MemPlace} (h : PtrE v = some (.lit (.int .u64 (p : Int)), ps)) : v = .pointer (some ⟨p, 0, none⟩) := by
  unfold PtrE at h
  split at h
  · cases h
  · injection h with h
    injection h with h1 _
    injection h1 with h1
    injection h1 with _ h1
    rw [Int.ofNat.inj h1]
  · cases h
theorem ptrE_nil {v : Value} {ps : List MemPlace} (h : PtrE v = some (.nil, ps)) : v = .pointer none := by
  unfold PtrE at h
  split at h
  · rfl
  · cases h
  · cases h
theorem ptrE_inv {v : Value} {y : DataW Unit × List MemPlace} (h : PtrE v = some y) : ∃ c : Option Nat, v = .pointer (c.map fun p => ⟨p, 0, none⟩) := by
  unfold PtrE at h
  split at h
  · exact ⟨none, rfl⟩
  · rename_i b
    exact ⟨some b, rfl⟩
  · cases h

/-! ## what waits -/
/-- the block of one that waits -/
def PCell (w : World) (p : Nat) (x : Wt) : Prop := w.heap[p]? = some (.cells #[.int .u64 (x.c : Int), .int .i64 x.t] 93 (0, 0))
def PAt (w : World) (D : DataW Unit) (x : Wt) : Prop := ∃ p : Nat, (∀ z, D.atKey (key x.s) z = .lit (.int .u64 (p : Int))) ∧ PCell w p x
/-- the map block b holds just those on the list -/
structure PMap (w : World) (b n : Nat) (D : DataW Unit) (l : List Wt) : Prop where
  own : w.ownsMap Tryd.prog 25 PtrE b n D
  at_ : ∀ x ∈ l, PAt w D x
  only : ∀ kl, Maps.has D kl = true → ∃ x ∈ l, kl = key x.s
def Pend (w : World) (pv : Value) (n : Nat) (l : List Wt) : Prop := (pv = .map none ∧ l = []) ∨ ∃ b D, pv = .map (some b) ∧ PMap w b n D l
/-- no block of S is one of a waiting message, or the map's own -/
def Far (w : World) (S : Nat → Prop) (pv : Value) : Prop := (∀ b, pv = .map (some b) → ¬ S b) ∧ ∀ p cs f, S p → w.heap[p]? ≠ some (.cells cs 93 f)
theorem PMap.has_of {w : World} {b n : Nat} {D : DataW Unit} {l : List Wt} (h : PMap w b n D l) {x : Wt} (hx : x ∈ l) : Maps.has D (key x.s) = true := by
  obtain ⟨p, hp, _⟩ := h.at_ x hx
  exact Maps.has_true_of_atKey hp
theorem PMap.move {w w' : World} {b n : Nat} {D : DataW Unit} {l : List Wt} (h : PMap w b n D l) (ho : w'.ownsMap Tryd.prog 25 PtrE b n D) (hc : ∀ p x, PCell w p x → PCell w' p x) : PMap w' b n D l :=
  ⟨ho, fun x hx => by obtain ⟨p, h1, h2⟩ := h.at_ x hx; exact ⟨p, h1, hc p x h2⟩, h.only⟩
theorem PMap.but {S : Nat → Prop} {w w' : World} {b n : Nat} {D : DataW Unit} {l : List Wt} (h : PMap w b n D l) (hb : But S w w') (hS : ¬ S b) (h93 : ∀ p cs f, S p → w.heap[p]? ≠ some (.cells cs 93 f)) : PMap w' b n D l := by
  refine h.move ?_ fun p x hp => (hb.block p (lt_of_heap hp) (fun hs => h93 p _ _ hs hp)).trans hp
  have hlt := h.own.lt
  obtain ⟨es, clock, hm, r⟩ := h.own
  exact ⟨es, clock, (hb.block b hlt hS).trans hm, r⟩
theorem Pend.but {S : Nat → Prop} {w w' : World} {pv : Value} {n : Nat} {l : List Wt} (h : Pend w pv n l) (hb : But S w w') (hF : Far w S pv) : Pend w' pv n l := by
  rcases h with ⟨h1, h2⟩ | ⟨b, D, rfl, hp⟩
  · exact Or.inl ⟨h1, h2⟩
  · exact Or.inr ⟨b, D, rfl, hp.but hb (hF.1 b rfl) hF.2⟩
theorem Pend.mono {w : World} {pv : Value} {n n' : Nat} {l : List Wt} (h : Pend w pv n l) (hn : n ≤ n') : Pend w pv n' l := by
  rcases h with ⟨h1, h2⟩ | ⟨b, D, rfl, hp⟩
  · exact Or.inl ⟨h1, h2⟩
  · exact Or.inr ⟨b, D, rfl, ⟨hp.own.mono hn, hp.at_, hp.only⟩⟩
theorem PMap.size_pos {w : World} {b n : Nat} {D : DataW Unit} {l : List Wt} (h : PMap w b n D l) : (Maps.size D = 0 ↔ l = []) := by
  obtain ⟨es, rfl, _, hk⟩ := h.own.entries K25
  constructor
  · intro h0
    cases es with
    | nil =>
      cases l with
      | nil => rfl
      | cons x l => have := h.has_of (x := x) (by simp); simp [Maps.has] at this
    | cons e es => simp [Maps.size] at h0
  · rintro rfl
    cases es with
    | nil => rfl
    | cons e es =>
      obtain ⟨x, hx, _⟩ := h.only e.1 (by simp only [Maps.has, List.any_cons, WideAt.sameKey_self (hk e (by simp)), Bool.true_or])
      cases hx

/-! ## the store's row -/
def Row (w : World) (m : Nat) (lk : Int) (k : Kp) (pv rv : Value) (ack : Int) : Prop :=
  w.heap[m]? = some (.cells #[.int .i32 lk, .int .u32 0, .int .i64 ack, .int .i64 0, .int .u64 (k.dc : Int), .int .u64 (k.ds : Int), .int .u64 (k.fc : Int), .int .u64 (k.fs : Int), pv, rv, .bool false] 84 (0, 0))
section
variable {w w' : World} {m : Nat} {lk : Int} {k : Kp} {pv rv : Value} {ack : Int}
theorem Row.lt (h : Row w m lk k pv rv ack) : m < w.heap.size := lt_of_heap h
theorem Row.fz (h : Row w m lk k pv rv ack) (i : Nat) : w.frozen? ⟨m, i, none⟩ = false := thawed h i
theorem Row.c0 (h : Row w m lk k pv rv ack) : w.cell? ⟨m, 0, none⟩ = some (.int .i32 lk) := cell_of h rfl
theorem Row.c1 (h : Row w m lk k pv rv ack) : w.cell? ⟨m, 1, none⟩ = some (.int .u32 0) := cell_of h rfl
theorem Row.c2 (h : Row w m lk k pv rv ack) : w.cell? ⟨m, 2, none⟩ = some (.int .i64 ack) := cell_of h rfl
theorem Row.c3 (h : Row w m lk k pv rv ack) : w.cell? ⟨m, 3, none⟩ = some (.int .i64 0) := cell_of h rfl
theorem Row.c4 (h : Row w m lk k pv rv ack) : w.cell? ⟨m, 4, none⟩ = some (.int .u64 (k.dc : Int)) := cell_of h rfl
theorem Row.c5 (h : Row w m lk k pv rv ack) : w.cell? ⟨m, 5, none⟩ = some (.int .u64 (k.ds : Int)) := cell_of h rfl
theorem Row.c6 (h : Row w m lk k pv rv ack) : w.cell? ⟨m, 6, none⟩ = some (.int .u64 (k.fc : Int)) := cell_of h rfl
theorem Row.c7 (h : Row w m lk k pv rv ack) : w.cell? ⟨m, 7, none⟩ = some (.int .u64 (k.fs : Int)) := cell_of h rfl
theorem Row.c8 (h : Row w m lk k pv rv ack) : w.cell? ⟨m, 8, none⟩ = some pv := cell_of h rfl
theorem Row.c9 (h : Row w m lk k pv rv ack) : w.cell? ⟨m, 9, none⟩ = some rv := cell_of h rfl
theorem Row.c10 (h : Row w m lk k pv rv ack) : w.cell? ⟨m, 10, none⟩ = some (.bool false) := cell_of h rfl
theorem Row.at (h : Row w m lk k pv rv ack) (e : w'.heap[m]? = w.heap[m]?) : Row w' m lk k pv rv ack := e.trans h
theorem Row.but {S : Nat → Prop} (h : Row w m lk k pv rv ack) (hb : But S w w') (hS : ¬ S m) : Row w' m lk k pv rv ack := h.at (hb.block m h.lt hS)
theorem Row.lock (h : Row w m lk k pv rv ack) (l : Int) : Row (w.setCell ⟨m, 0, none⟩ (.int .i32 l)) m l k pv rv ack := K.heap_setCell_at h _
theorem Row.setDc (h : Row w m lk k pv rv ack) (x : Nat) : Row (w.setCell ⟨m, 4, none⟩ (.int .u64 (x : Int))) m lk { k with dc := x } pv rv ack := K.heap_setCell_at h _
theorem Row.setDs (h : Row w m lk k pv rv ack) (x : Nat) : Row (w.setCell ⟨m, 5, none⟩ (.int .u64 (x : Int))) m lk { k with ds := x } pv rv ack := K.heap_setCell_at h _
theorem Row.setFc (h : Row w m lk k pv rv ack) (x : Nat) : Row (w.setCell ⟨m, 6, none⟩ (.int .u64 (x : Int))) m lk { k with fc := x } pv rv ack := K.heap_setCell_at h _
theorem Row.setFs (h : Row w m lk k pv rv ack) (x : Nat) : Row (w.setCell ⟨m, 7, none⟩ (.int .u64 (x : Int))) m lk { k with fs := x } pv rv ack := K.heap_setCell_at h _
theorem Row.setP (h : Row w m lk k pv rv ack) (v : Value) : Row (w.setCell ⟨m, 8, none⟩ v) m lk k v rv ack := K.heap_setCell_at h _
theorem Row.setR (h : Row w m lk k pv rv ack) (v : Value) : Row (w.setCell ⟨m, 9, none⟩ v) m lk k pv v ack := K.heap_setCell_at h _
theorem Row.waits (h : Row w m lk k pv rv ack) (l : List Wt) : Row w m lk { k with waits := l } pv rv ack := h
end
theorem Row.not93 {w : World} {m : Nat} {lk : Int} {k : Kp} {pv rv : Value} {ack : Int} (h : Row w m lk k pv rv ack) (cs : Array Value) (f : Nat × Nat) : w.heap[m]? ≠ some (.cells cs 93 f) := by
  rw [h]
  intro e
  injection e with e
  injection e with _ e _
  exact absurd e (by decide)
theorem PMap.ne {w : World} {b n : Nat} {D : DataW Unit} {l : List Wt} {m : Nat} {cs : Array Value} {t : TypeId} {f : Nat × Nat} (h : PMap w b n D l) (hm : w.heap[m]? = some (.cells cs t f)) : b ≠ m := by
  obtain ⟨es, clock, hb, _⟩ := h.own
  rintro rfl
  rw [hb] at hm
  cases hm
end Go.Proofs.YtchphfdoneckeaaDoor
