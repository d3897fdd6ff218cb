/-
  A deed, as plain data; what it does, and its kind.
-/
import Derived.Test.YtchphfdoneckeaaDoorAc
namespace Go.Proofs.YtchphfdoneckeaaDoor
open Go.RowKit
open Cs (Wt Kp)

inductive Dd where
  | dlv (c s : Nat) (t : Int)
  | ack (c s : Nat)
def Dd.row : Dd → Array Value
  | .dlv c s t => dlvRow c s t
  | .ack c s => ackRow c s
def AckOk (k : Kp) (c s : Nat) (k' : Kp) : Prop := (c ≤ k.fc ∧ k' = k) ∨ (∃ x ∈ k.waits, x.s = s ∧ x.c = c ∧ k' = Cs.ackd k c s)
def AckNo (k : Kp) (c s : Nat) : Prop := k.fc < c ∧ ∀ y ∈ k.waits, y.s ≠ s
def Does (k : Kp) (d : Dd) (k' : Kp) (kd : Int) : Prop :=
  match d with
  | .dlv c s t => k.dc < c ∧ k.ds < s ∧ s < 18446744073709551616 ∧ k' = Cs.dlv k c s t ∧ kd = 0
  | .ack c s => s < 18446744073709551616 ∧ ((kd = 0 ∧ AckOk k c s k') ∨ (kd = 1 ∧ AckNo k c s ∧ k' = k))
/-- a state's numbers are not too great, and not too many wait -/
structure Good (k : Kp) : Prop where
  sound : Cs.Sound k
  dc : k.dc < 18446744073709551615
  ds : k.ds < 18446744073709551615
  len : k.waits.length ≤ 12
theorem Good.fits {k : Kp} (h : Good k) : Fits k := ⟨h.sound.up, fun x hx => by have := h.sound.w x hx; have := h.ds; omega⟩
/-- an error's kind -/
def KindOf (te : TypeId) (ve ev : Value) (kd : Int) : Prop := (ev = .nilIface ∧ kd = 0) ∨ (ev = .iface te ve ∧ kd = 1)
theorem one_any (te : TypeId) (ve ev : Value) (kd : Int) (h : KindOf te ve ev kd) (w : World) : Calls Tryd.prog 16 #[ev] w fun e w' => e = .returned (.int .i64 kd) ∧ w' = w := by
  rcases h with ⟨rfl, rfl⟩ | ⟨rfl, rfl⟩
  · exact one_nil w
  · exact one_err te ve w
def ActPost (m n : Nat) (k' : Kp) (pv : Value) (te : TypeId) (ve : Value) (kd : Int) (w : World) (e : Ending) (w' : World) : Prop :=
  ∃ ev, e = .returned ev ∧ KindOf te ve ev kd ∧ ∃ pv', Row w' m 0 k' pv' (.map none) 2 ∧ Pend w' pv' n k'.waits ∧ But (fun j => j = m ∨ pv = .map (some j)) w w' ∧ ∀ b, pv' = .map (some b) → pv = .map (some b) ∨ w.heap.size ≤ b
theorem act_any (m n : Nat) (d : Dd) (kd : Int) (pv : Value) (te : TypeId) (ve : Value) (k k' : Kp) (w : World) (hR : Row w m 0 k pv (.map none) 2) (hP : Pend w pv n k.waits) (hn : n ≤ 1000000) (hk : Good k) (hE : w.cell? ⟨1, 0, none⟩ = some (.iface te ve)) (hD : Does k d k' kd) :
    Calls Tryd.prog 17 #[.pointer (some ⟨m, 0, none⟩), .agg d.row] w (ActPost m (n + 1) k' pv te ve kd w) := by
  cases d with
  | dlv c s t =>
    obtain ⟨h1, h2, h3, rfl, rfl⟩ := hD
    refine (act_dlv m n c s t pv k w hR hP hn hk.sound h1 h2 h3).mono ?_
    rintro e w' ⟨rfl, h⟩
    exact ⟨_, rfl, Or.inl ⟨rfl, rfl⟩, h⟩
  | ack c s =>
    obtain ⟨h1, h2⟩ := hD
    rcases h2 with ⟨rfl, h2⟩ | ⟨rfl, h2, rfl⟩
    · have hA : AckAs k c s te ve k' .nilIface := ⟨by
        rcases h2 with ⟨h3, rfl⟩ | ⟨x, hx, h4, h5, h6⟩
        · exact Or.inl ⟨h3, rfl, rfl⟩
        · exact Or.inr (Or.inr ⟨x, hx, h4, h5, h6, rfl⟩)⟩
      refine (act_ack_nil m (n + 1) c s pv te ve k k' w hR (hP.mono (by omega)) hk.sound h1 hk.dc hk.ds hE hA).mono ?_
      rintro e w' ⟨rfl, h⟩
      exact ⟨_, rfl, Or.inl ⟨rfl, rfl⟩, h⟩
    · have hA : AckAs k' c s te ve k' (.iface te ve) := ⟨Or.inr (Or.inl ⟨h2.1, h2.2, rfl, rfl⟩)⟩
      refine (act_ack_err m (n + 1) c s pv te ve k' k' w hR (hP.mono (by omega)) hk.sound h1 hk.dc hk.ds hE hA).mono ?_
      rintro e w' ⟨rfl, h⟩
      exact ⟨_, rfl, Or.inr ⟨rfl, rfl⟩, h⟩

/-- the deeds in memory -/
def DeedsAt (w : World) (A : Option Addr) (n : Nat) (dd : Nat → Dd) : Prop := 0 < n → ∃ b o, A = some ⟨b, o, none⟩ ∧ b < w.heap.size ∧ ∀ i, i < n → ∀ (j : Nat) (v : Value), (dd i).row[j]? = some v → w.cell? ⟨b, o + i * 11 + j, none⟩ = some v
theorem Dd.size (d : Dd) : d.row.size = 11 := by cases d <;> rfl
theorem load_deed {w : World} {b o : Nat} (d : Dd) (h : ∀ (j : Nat) (v : Value), d.row[j]? = some v → w.cell? ⟨b, o + j, none⟩ = some v) : (Instr.loadAt 37 (.pointer (some ⟨b, o, none⟩))).run Tryd.prog w = .ok (.agg d.row) w := by
  have hl : (loadCells ⟨b, o, none⟩ d.row.toList.length).run Tryd.prog w = .ok d.row.toList.toArray w :=
    run_loadCells_list (P := Tryd.prog) w ⟨b, o, none⟩ d.row.toList (fun j v hv => by
      have hadd : (⟨b, o, none⟩ : Addr).add j = ⟨b, o + j, none⟩ := by unfold Addr.add; split <;> simp_all
      rw [hadd]
      exact h j v (by simpa using hv))
  simp only [Array.length_toList, Array.toArray_toList, Dd.size] at hl
  simp [Instr.loadAt, Instr.sureAddr, loadVar, Sem.run_bind, Tryd.isAgg37, Tryd.sizeOf37, hl]
end Go.Proofs.YtchphfdoneckeaaDoor
