/-
  Texts cut at a mark, and joined again (plain).
-/
import Derived.Lib.Strings
namespace Go.Proofs.YtocfcajafkkhdaaDoor

/-- a text, cut at a mark -/
def sp (c : UInt8) : List UInt8 → List (List UInt8)
  | [] => [[]]
  | x :: r => if x = c then [] :: sp c r else match sp c r with
    | [] => [[x]]
    | t :: ts => (x :: t) :: ts
/-- pieces with a mark between them -/
def jn (c : UInt8) : List (List UInt8) → List UInt8
  | [] => []
  | [t] => t
  | t :: u :: ts => t ++ c :: jn c (u :: ts)
theorem sp_cons (c x : UInt8) (r : List UInt8) : sp c (x :: r) = if x = c then [] :: sp c r else match sp c r with
    | [] => [[x]]
    | t :: ts => (x :: t) :: ts := rfl
theorem sp_ne (c : UInt8) (s : List UInt8) : sp c s ≠ [] := by
  cases s with
  | nil => simp [sp]
  | cons x r =>
    unfold sp
    split
    · simp
    · split <;> simp
theorem sp_no (c : UInt8) : ∀ (t : List UInt8), c ∉ t → sp c t = [t]
  | [], _ => rfl
  | x :: r, h => by
    have h1 : x ≠ c := fun e => h (by simp [e])
    have h2 := sp_no c r (fun hm => h (by simp [hm]))
    unfold sp
    rw [if_neg h1, h2]
theorem sp_app (c : UInt8) (r : List UInt8) : ∀ (t : List UInt8), c ∉ t → sp c (t ++ c :: r) = t :: sp c r
  | [], _ => by simp [sp]
  | x :: t, h => by
    have h1 : x ≠ c := fun e => h (by simp [e])
    have h2 := sp_app c r t (fun hm => h (by simp [hm]))
    rw [List.cons_append, sp_cons, if_neg h1, h2]
theorem jn_cons (c : UInt8) (t : List UInt8) {l : List (List UInt8)} (h : l ≠ []) : jn c (t :: l) = t ++ c :: jn c l := by
  cases l with
  | nil => exact absurd rfl h
  | cons u ts => rfl
theorem jn_append (c : UInt8) {b : List (List UInt8)} (hb : b ≠ []) : ∀ {a : List (List UInt8)}, a ≠ [] → jn c (a ++ b) = jn c a ++ c :: jn c b
  | [], h => absurd rfl h
  | [t], _ => by rw [List.singleton_append, jn_cons c t hb]; rfl
  | t :: u :: ts, _ => by
    have h1 := jn_append c hb (a := u :: ts) (by simp)
    rw [List.cons_append, jn_cons c t (by simp), h1, jn_cons c t (by simp)]
    simp
theorem jn_sp (c : UInt8) : ∀ (s : List UInt8), jn c (sp c s) = s
  | [] => rfl
  | x :: r => by
    have h := jn_sp c r
    have hn := sp_ne c r
    unfold sp
    split
    · next e => rw [jn_cons c [] hn, h, e]; rfl
    · cases hs : sp c r with
      | nil => exact absurd hs hn
      | cons t ts =>
        rw [hs] at h
        cases ts with
        | nil => simp only [jn] at h ⊢; rw [h]
        | cons u us =>
          rw [jn_cons c t (by simp)] at h
          show jn c ((x :: t) :: u :: us) = x :: r
          rw [jn_cons c _ (by simp), List.cons_append, h]
theorem sp_mid (c : UInt8) (b : List UInt8) : ∀ (a : List UInt8), sp c (a ++ c :: b) = sp c a ++ sp c b
  | [] => by simp [sp]
  | x :: a => by
    have h := sp_mid c b a
    rw [List.cons_append, sp_cons, sp_cons]
    split
    · rw [h]; rfl
    · rw [h]
      cases hs : sp c a with
      | nil => exact absurd hs (sp_ne c a)
      | cons t ts => rfl
theorem sp_mem (c : UInt8) : ∀ (s : List UInt8), ∀ t ∈ sp c s, c ∉ t
  | [], t, h => by simp [sp] at h; rw [h]; simp
  | x :: r, t, h => by
    have ih := sp_mem c r
    unfold sp at h
    split at h
    · rcases List.mem_cons.1 h with rfl | h
      · simp
      · exact ih t h
    · next hx =>
      split at h
      · simp at h; rw [h]; simp; exact fun e => hx e.symm
      · next t0 ts hs =>
        rw [hs] at ih
        rcases List.mem_cons.1 h with rfl | h
        · intro hm
          rcases List.mem_cons.1 hm with e | hm
          · exact hx e.symm
          · exact ih t0 (by simp) hm
        · exact ih t (by simp [h])
/-- the mark's first place -/
theorem sp_first (c : UInt8) (s : List UInt8) (i : Nat) (h1 : s[i]? = some c) (h2 : ∀ (j : Nat), j < i → s[j]? ≠ some c) : sp c s = s.take i :: sp c (s.drop (i + 1)) := by
  have hi : i < s.length := (List.getElem?_eq_some_iff.1 h1).1
  have hc : s[i] = c := (List.getElem?_eq_some_iff.1 h1).2
  have e : s = s.take i ++ c :: s.drop (i + 1) := by
    conv => lhs; rw [← List.take_append_drop i s, List.drop_eq_getElem_cons hi, hc]
  have hn : c ∉ s.take i := by
    intro hm
    obtain ⟨j, hj, hx⟩ := List.mem_iff_getElem.1 hm
    rw [List.length_take] at hj
    rw [List.getElem_take] at hx
    exact h2 j (by omega) (by rw [List.getElem?_eq_getElem (by omega), hx])
  conv => lhs; rw [e]
  exact sp_app c _ _ hn
theorem sp_none (c : UInt8) (s : List UInt8) (h : ∀ (j : Nat), s[j]? ≠ some c) : sp c s = [s] :=
  sp_no c s (fun hm => by
    obtain ⟨j, hj, hx⟩ := List.mem_iff_getElem.1 hm
    exact h j (by rw [List.getElem?_eq_getElem hj, hx]))
end Go.Proofs.YtocfcajafkkhdaaDoor
