/-
  The reading machine of distinguished names, plain: one byte (or an escaped pair) a step; its runs; what it ends with. No program in sight.
-/
import Derived.Test.YtnjjhklefamaoaaDoorDn
namespace Go.Proofs.YtnjjhklefamaoaaDoor.Dn

structure St where
  esc : Bool
  sp : Nat
  buf : List UInt8
  ty : ByteArray
  rdn : List Attr
  dn : Name

def none0 : ByteArray := ⟨#[]⟩
def init : St := ⟨false, 0, [], none0, [], []⟩
/-- the bytes that are escaped by a backslash alone -/
def special (c : UInt8) : Bool := c = 32 || c = 34 || c = 35 || c = 43 || c = 44 || c = 59 || c = 60 || c = 61 || c = 62 || c = 92
def hexv (c : UInt8) : Option Nat := if 48 ≤ c.toNat ∧ c.toNat ≤ 57 then some (c.toNat - 48) else if 97 ≤ c.toNat ∧ c.toNat ≤ 102 then some (c.toNat - 97 + 10) else if 65 ≤ c.toNat ∧ c.toNat ≤ 70 then some (c.toNat - 65 + 10) else none
theorem hexv_lt {c : UInt8} {x : Nat} (h : hexv c = some x) : x < 16 := by
  unfold hexv at h
  split at h
  · simp at h; omega
  · split at h
    · simp at h; omega
    · split at h
      · simp at h; omega
      · cases h
def strOf (buf : List UInt8) (sp : Nat) : ByteArray := ⟨(buf.take (buf.length - sp)).toArray⟩

/-- one step: from place i to the next one -/
inductive Step (s : List UInt8) : Nat → St → Nat → St → Prop
  | special (i : Nat) (c : UInt8) (σ : St) (hc : s[i]? = some c) (he : σ.esc = true) (hs : special c = true) : Step s i σ (i + 1) { σ with esc := false, sp := 0, buf := σ.buf ++ [c] }
  | hex (i : Nat) (c d : UInt8) (x y : Nat) (σ : St) (hc : s[i]? = some c) (hd : s[i + 1]? = some d) (he : σ.esc = true) (hs : special c = false) (hx : hexv c = some x) (hy : hexv d = some y) : Step s i σ (i + 2) { σ with esc := false, sp := 0, buf := σ.buf ++ [UInt8.ofNat (x * 16 + y)] }
  | back (i : Nat) (σ : St) (hc : s[i]? = some 92) (he : σ.esc = false) : Step s i σ (i + 1) { σ with esc := true, sp := 0 }
  | eq (i : Nat) (σ : St) (hc : s[i]? = some 61) (he : σ.esc = false) (hn : s[i + 1]? ≠ some 35) : Step s i σ (i + 1) { σ with ty := strOf σ.buf σ.sp, buf := [], sp := 0 }
  | comma (i : Nat) (σ : St) (hc : s[i]? = some 44) (he : σ.esc = false) (ht : 0 < σ.ty.size) : Step s i σ (i + 1) { σ with ty := none0, buf := [], sp := 0, rdn := [], dn := σ.dn ++ [σ.rdn ++ [(σ.ty, strOf σ.buf σ.sp)]] }
  | plus (i : Nat) (σ : St) (hc : s[i]? = some 43) (he : σ.esc = false) (ht : 0 < σ.ty.size) : Step s i σ (i + 1) { σ with ty := none0, buf := [], sp := 0, rdn := σ.rdn ++ [(σ.ty, strOf σ.buf σ.sp)] }
  | lead (i : Nat) (σ : St) (hc : s[i]? = some 32) (he : σ.esc = false) (hb : σ.buf = []) : Step s i σ (i + 1) σ
  | space (i : Nat) (σ : St) (hc : s[i]? = some 32) (he : σ.esc = false) (hb : σ.buf ≠ []) : Step s i σ (i + 1) { σ with buf := σ.buf ++ [32], sp := σ.sp + 1 }
  | plain (i : Nat) (c : UInt8) (σ : St) (hc : s[i]? = some c) (he : σ.esc = false) (h1 : c ≠ 92) (h2 : c ≠ 61) (h3 : c ≠ 44) (h4 : c ≠ 43) (h5 : c ≠ 32) : Step s i σ (i + 1) { σ with buf := σ.buf ++ [c], sp := 0 }

inductive Runs (s : List UInt8) : Nat → St → Nat → St → Prop
  | nil (i : Nat) (σ : St) : Runs s i σ i σ
  | cons {i i' j : Nat} {σ σ' τ : St} (h : Step s i σ i' σ') (r : Runs s i' σ' j τ) : Runs s i σ j τ

theorem at_lt {s : List UInt8} {i : Nat} {c : UInt8} (h : s[i]? = some c) : i < s.length := (List.getElem?_eq_some_iff.1 h).1
theorem Step.lt {s : List UInt8} {i j : Nat} {σ τ : St} (h : Step s i σ j τ) : i < j ∧ j ≤ s.length := by
  cases h
  case hex c d x y hs hx he hc hd hy => exact ⟨by omega, at_lt (i := i + 1) (by assumption)⟩
  all_goals exact ⟨by omega, at_lt (i := i) (by assumption)⟩
theorem Runs.snoc {s : List UInt8} {i j k : Nat} {σ τ ρ : St} (h : Runs s i σ j τ) (r : Step s j τ k ρ) : Runs s i σ k ρ := by
  induction h with
  | nil => exact .cons r (.nil _ _)
  | cons h1 _ ih => exact .cons h1 (ih r)
theorem Runs.trans {s : List UInt8} {i j k : Nat} {σ τ ρ : St} (h : Runs s i σ j τ) (r : Runs s j τ k ρ) : Runs s i σ k ρ := by
  induction h with
  | nil => exact r
  | cons h1 _ ih => exact .cons h1 (ih r)
theorem Runs.le {s : List UInt8} {i j : Nat} {σ τ : St} (h : Runs s i σ j τ) : i ≤ j := by
  induction h with
  | nil => exact Nat.le_refl _
  | cons h1 _ ih => have := h1.lt.1; omega

/-- what holds of every state on the way -/
def Fine (i : Nat) (σ : St) : Prop := σ.sp ≤ σ.buf.length ∧ σ.buf.length ≤ i ∧ σ.rdn.length ≤ i ∧ σ.dn.length ≤ i ∧ (∀ x ∈ σ.dn, x.length ≤ i) ∧ σ.ty.size ≤ i
theorem fine_init : Fine 0 init := ⟨Nat.le_refl _, Nat.le_refl _, Nat.le_refl _, Nat.le_refl _, (fun _ h => by cases h), Nat.le_refl _⟩
theorem strOf_size (buf : List UInt8) (sp : Nat) : (strOf buf sp).size = buf.length - sp := by
  show (strOf buf sp).data.size = _
  simp [strOf]
theorem Fine.step {s : List UInt8} {i j : Nat} {σ τ : St} (h : Fine i σ) (r : Step s i σ j τ) : Fine j τ := by
  obtain ⟨h1, h2, h3, h4, h5, h6⟩ := h
  cases r with
  | special | hex | plain => exact ⟨Nat.zero_le _, by simp; omega, by simp; omega, by simp; omega, (fun x hx => by have := h5 x hx; omega), by simp; omega⟩
  | back => exact ⟨Nat.zero_le _, by simp; omega, by simp; omega, by simp; omega, (fun x hx => by have := h5 x hx; omega), by simp; omega⟩
  | eq => exact ⟨Nat.zero_le _, by simp, by simp; omega, by simp; omega, (fun x hx => by have := h5 x hx; omega), by simp [strOf_size]; omega⟩
  | comma =>
    refine ⟨Nat.zero_le _, by simp, by simp, by simp; omega, (fun x hx => ?_), Nat.zero_le _⟩
    simp only [List.mem_append, List.mem_singleton] at hx
    rcases hx with hx | rfl
    · have := h5 x hx; omega
    · simp; omega
  | plus => exact ⟨Nat.zero_le _, by simp, by simp; omega, by simp; omega, (fun x hx => by have := h5 x hx; omega), Nat.zero_le _⟩
  | lead => exact ⟨h1, by omega, by omega, by omega, (fun x hx => by have := h5 x hx; omega), by omega⟩
  | space => exact ⟨by simp; omega, by simp; omega, by simp; omega, by simp; omega, (fun x hx => by have := h5 x hx; omega), by simp; omega⟩

/-- what is read of a state at the text's end -/
def final (σ : St) : Name := if σ.buf = [] then σ.dn else σ.dn ++ [σ.rdn ++ [(σ.ty, strOf σ.buf σ.sp)]]
end Go.Proofs.YtnjjhklefamaoaaDoor.Dn
