/-
  What ParseDN's loop holds in memory, and what each of its deeds does to that.
-/
import Derived.Test.YtnjjhklefamaoaaDoorBlk
import Derived.Test.YtnjjhklefamaoaaDoorShelf
import Derived.Test.YtnjjhklefamaoaaDoorMach
import Derived.Lib.BufferKept
namespace Go.Proofs.YtnjjhklefamaoaaDoor
open Go.RowKit
open Dn (Attr Name)


def DnP (B : Nat) (wr : World) (S : Nat → Prop) (u : Value) (ds : List Value) (dn : Name) : Prop :=
  wr.heap[B]? = some (.cells #[u] 44 (0, 0)) ∧ wr.ownsRow B 48 1 u dn.length ds ∧ ∀ j, j < dn.length → RBlk wr S (ds.getD j undef) (Dn.at' dn j)
def RdnP (B : Nat) (wr : World) (S : Nat → Prop) (R : Nat) (v : Value) (ps : List Value) (rdn : List Attr) : Prop :=
  wr.heap[R]? = some (.cells #[v] 47 (0, 0)) ∧ wr.ownsRow B 50 1 v rdn.length ps ∧ ∀ j, j < rdn.length → ABlk wr S (ps.getD j undef) (atA rdn j)
def AttrP (wr : World) (A : Nat) (a : Attr) : Prop := wr.heap[A]? = some (.cells #[.string a.1, .string a.2] 49 (0, 0))
def SpP (wr : World) (Sp n : Nat) : Prop := wr.heap[Sp]? = some (.cells #[.int .i64 n] 3 (0, 0))
abbrev BufP (B : Nat) (wr : World) (Bf : Nat) (buf : List UInt8) : Prop := Lib.IsBuffer 60 5 B Bf (Lib.byteCells buf) wr

/-- the blocks of these types are as they were -/
def Stays (p : TypeId → Prop) (w w' : World) : Prop := ∀ (b : Nat) (cs : Array Value) (t : TypeId) (fz : Nat × Nat), p t → w.heap[b]? = some (.cells cs t fz) → w'.heap[b]? = some (.cells cs t fz)
theorem Stays.keeps {p q : TypeId → Prop} {S : Nat → Prop} {w w' : World} (h : Stays p w w') (hq : ∀ t, q t → p t) : Keeps q S S w w' := fun b cs t fz hs hp hb => ⟨h b cs t fz (hq t hp) hb, hs⟩
theorem Stays.trans {p : TypeId → Prop} {a b c : World} (h : Stays p a b) (k : Stays p b c) : Stays p a c := fun x cs t fz hp hb => k x cs t fz hp (h x cs t fz hp hb)
theorem Stays.mono {p q : TypeId → Prop} {a b : World} (h : Stays p a b) (hq : ∀ t, q t → p t) : Stays q a b := fun x cs t fz hp hb => h x cs t fz (hq t hp) hb
theorem stays_below {p : TypeId → Prop} {w w' : World} (h : Below w.heap.size w w') : Stays p w w' := fun b _ _ _ _ hb => (h.block b (Array.getElem?_eq_some_iff.1 hb).1).trans hb
theorem stays_grown {w w' : World} {row : Option Nat} {e : TypeId} (h : w.grownBy w' row) (hr : ∀ g, row = some g → ∃ cs fz, w.heap[g]? = some (.cells cs e fz)) : Stays (· ≠ e) w w' := by
  intro b cs t fz hp hb
  refine (h.block b (Array.getElem?_eq_some_iff.1 hb).1 (fun e2 => ?_)).trans hb
  obtain ⟨cs2, fz2, h2⟩ := hr b e2.symm
  rw [hb] at h2
  simp at h2
  exact hp h2.2.1
theorem stays_set {w : World} {g j : Nat} {u : Value} {e : TypeId} {cs : Array Value} {fz : Nat × Nat} (h : w.heap[g]? = some (.cells cs e fz)) : Stays (· ≠ e) w (w.setCell ⟨g, j, none⟩ u) := by
  intro b cs2 t fz2 hp hb
  by_cases hg : g = b
  · subst hg
    rw [h] at hb
    simp at hb
    exact absurd hb.2.1.symm hp
  · rw [Below.heap_setCell _ _ _ _ (fun e => hg e.symm)]; exact hb
/-- all but the buffer's types stay, behind what a buffer's method does -/
theorem stays_buffer {B Bf : Nat} {w w' : World} {buf : List UInt8} (hI : BufP B w Bf buf) (h : Lib.OthersKept 5 (some Bf) w w') : Stays (fun t => t ≠ 5 ∧ t ≠ 60) w w' := by
  intro b cs t fz ⟨h5, h60⟩ hb
  refine h b _ hb (fun e => ?_) (fun c f e => h5 (by injection e))
  obtain ⟨_, v, lr, hbf, _⟩ := hI
  simp at e
  subst e
  rw [hb] at hbf
  simp at hbf
  exact h60 hbf.2.1
theorem buf_keep {B Bf : Nat} {w w' : World} {buf : List UInt8} (hI : BufP B w Bf buf) (h : Stays (fun t => t = 5 ∨ t = 60) w w') : BufP B w' Bf buf := by
  obtain ⟨hB, v, lr, hb, hr, hne⟩ := hI
  refine ⟨hB, v, lr, h _ _ _ _ (.inr rfl) hb, ?_, hne⟩
  exact row_move hr fun g hg => ⟨(hr.lt g hg).1, by
    obtain ⟨cur, hc⟩ := row_block hr hg
    rw [h _ _ _ _ (.inl rfl) hc, hc]⟩
theorem DnP.keep {B : Nat} {w w' : World} {S S' : Nat → Prop} {u : Value} {ds : List Value} {dn : Name} (h : DnP B w S u ds dn) (h1 : Stays (fun t => t = 44 ∨ t = 48) w w') (h2 : Keeps (fun t => t = 47 ∨ t = 49 ∨ t = 50) S S' w w') : DnP B w' S' u ds dn := by
  obtain ⟨a, b, c⟩ := h
  refine ⟨h1 _ _ _ _ (.inl rfl) a, row_move b fun g hg => ⟨(b.lt g hg).1, by
    obtain ⟨cur, hc⟩ := row_block b hg
    rw [h1 _ _ _ _ (.inr rfl) hc, hc]⟩, fun j hj => (c j hj).keep h2 (.inl rfl) (.inr (.inl rfl)) (.inr (.inr rfl))⟩
theorem RdnP.keep {B R : Nat} {w w' : World} {S S' : Nat → Prop} {v : Value} {ps : List Value} {rdn : List Attr} (h : RdnP B w S R v ps rdn) (h1 : Stays (fun t => t = 47 ∨ t = 50) w w') (h2 : Keeps (· = 49) S S' w w') : RdnP B w' S' R v ps rdn := by
  obtain ⟨a, b, c⟩ := h
  refine ⟨h1 _ _ _ _ (.inl rfl) a, row_move b fun g hg => ⟨(b.lt g hg).1, by
    obtain ⟨cur, hc⟩ := row_block b hg
    rw [h1 _ _ _ _ (.inr rfl) hc, hc]⟩, fun j hj => (c j hj).keep h2 rfl⟩
/-! ## The whole state -/
def Done (A R : Nat) (v : Value) : Nat → Prop := fun b => b ≠ A ∧ b ≠ R ∧ v.ownBlock ≠ some b
def Mem (w wr : World) (Bf Sp : Nat) (buf : List UInt8) (sp : Nat) (A : Nat) (a : Attr) (R : Nat) (v : Value) (ps : List Value) (rdn : List Attr) (u : Value) (ds : List Value) (dn : Name) : Prop :=
  (K.Grew w wr ∧ w.heap.size ≤ A ∧ w.heap.size ≤ Sp ∧ w.heap.size ≤ R) ∧ BufP w.heap.size wr Bf buf ∧ SpP wr Sp sp ∧ AttrP wr A a ∧ RdnP w.heap.size wr (fun b => b ≠ A) R v ps rdn ∧ DnP w.heap.size wr (Done A R v) u ds dn

section
variable {w wr w' : World} {Bf Sp sp A R : Nat} {buf : List UInt8} {a : Attr} {v u : Value} {ps ds : List Value} {rdn : List Attr} {dn : Name}
theorem lt_of {w : World} {b : Nat} {o : Obj} (h : w.heap[b]? = some o) : b < w.heap.size := (Array.getElem?_eq_some_iff.1 h).1

/-- all but the buffer stays -/
theorem Mem.move {buf' : List UInt8} (M : Mem w wr Bf Sp buf sp A a R v ps rdn u ds dn) (hg : Below w.heap.size wr w') (hs : Stays (fun t => t ≠ 5 ∧ t ≠ 60) wr w') (hI : BufP w.heap.size w' Bf buf') : Mem w w' Bf Sp buf' sp A a R v ps rdn u ds dn := by
  obtain ⟨⟨g, h1, h2, h3⟩, _, hsp, ha, hr, hd⟩ := M
  refine ⟨⟨Below.trans g hg, h1, h2, h3⟩, hI, hs _ _ _ _ (by decide) hsp, hs _ _ _ _ (by decide) ha, hr.keep (hs.mono fun t ht => ?_) (hs.keeps fun t ht => ?_), hd.keep (hs.mono fun t ht => ?_) (hs.keeps fun t ht => ?_)⟩
  · rcases ht with rfl | rfl <;> decide
  · subst ht; decide
  · rcases ht with rfl | rfl <;> decide
  · rcases ht with rfl | rfl | rfl <;> decide
theorem Mem.buffer {buf' : List UInt8} (M : Mem w wr Bf Sp buf sp A a R v ps rdn u ds dn) (hI : BufP w.heap.size w' Bf buf') (hb : Below w.heap.size wr w') (ho : Lib.OthersKept 5 (some Bf) wr w') : Mem w w' Bf Sp buf' sp A a R v ps rdn u ds dn :=
  M.move hb (stays_buffer M.2.1 ho) hI
theorem Mem.below (M : Mem w wr Bf Sp buf sp A a R v ps rdn u ds dn) (hb : Below wr.heap.size wr w') : Mem w w' Bf Sp buf sp A a R v ps rdn u ds dn :=
  M.move (hb.mono (Below.size M.1.1)) (stays_below hb) (buf_keep M.2.1 (stays_below hb))
theorem Mem.drewN (M : Mem w wr Bf Sp buf sp A a R v ps rdn u ds dn) (n : Nat) : Mem w (wr.drewN n) Bf Sp buf sp A a R v ps rdn u ds dn := M.below (K.below_drewN (Below.refl _ _) n)
theorem Mem.spaces (M : Mem w wr Bf Sp buf sp A a R v ps rdn u ds dn) (n : Nat) : Mem w (wr.setCell ⟨Sp, 0, none⟩ (.int .i64 n)) Bf Sp buf n A a R v ps rdn u ds dn := by
  obtain ⟨⟨g, h1, h2, h3⟩, hI, hsp, ha, hr, hd⟩ := M
  have hs : Stays (· ≠ 3) wr (wr.setCell ⟨Sp, 0, none⟩ (.int .i64 n)) := stays_set hsp
  refine ⟨⟨Below.setCell g h2 _, h1, h2, h3⟩, buf_keep hI (hs.mono fun t ht => ?_), K.heap_setCell_at hsp _, hs _ _ _ _ (by decide) ha, hr.keep (hs.mono fun t ht => ?_) (hs.keeps fun t ht => ?_), hd.keep (hs.mono fun t ht => ?_) (hs.keeps fun t ht => ?_)⟩
  · rcases ht with rfl | rfl <;> decide
  · rcases ht with rfl | rfl <;> decide
  · subst ht; decide
  · rcases ht with rfl | rfl <;> decide
  · rcases ht with rfl | rfl | rfl <;> decide
/-- a store into the attribute's block leaves all others of its type -/
theorem keeps_attr {j : Nat} {x : Value} {q : TypeId → Prop} {S : Nat → Prop} (hS : ∀ b, S b → b ≠ A) : Keeps q S S wr (wr.setCell ⟨A, j, none⟩ x) := by
  intro b cs t fz hs _ hb
  refine ⟨?_, hs⟩
  rw [Below.heap_setCell _ _ _ _ (by exact hS b hs)]; exact hb
theorem Mem.store (M : Mem w wr Bf Sp buf sp A a R v ps rdn u ds dn) (j : Nat) (x : Value) (a' : Attr) (he : #[Value.string a.1, .string a.2].setIfInBounds j x = #[.string a'.1, .string a'.2]) : Mem w (wr.setCell ⟨A, j, none⟩ x) Bf Sp buf sp A a' R v ps rdn u ds dn := by
  obtain ⟨⟨g, h1, h2, h3⟩, hI, hsp, ha, hr, hd⟩ := M
  have hs : Stays (· ≠ 49) wr (wr.setCell ⟨A, j, none⟩ x) := stays_set ha
  refine ⟨⟨Below.setCell g h1 _, h1, h2, h3⟩, buf_keep hI (hs.mono fun t ht => ?_), hs _ _ _ _ (by decide) hsp, ?_, hr.keep (hs.mono fun t ht => ?_) (keeps_attr fun b hb => hb), hd.keep (hs.mono fun t ht => ?_) (keeps_attr fun b hb => hb.1)⟩
  · rcases ht with rfl | rfl <;> decide
  · have := K.heap_setCell_at (i := j) ha x
    unfold AttrP
    rw [this, he]
  · rcases ht with rfl | rfl <;> decide
  · rcases ht with rfl | rfl <;> decide
theorem Mem.typ (M : Mem w wr Bf Sp buf sp A a R v ps rdn u ds dn) (t : ByteArray) : Mem w (wr.setCell ⟨A, 0, none⟩ (.string t)) Bf Sp buf sp A (t, a.2) R v ps rdn u ds dn := M.store 0 _ _ rfl
theorem Mem.val (M : Mem w wr Bf Sp buf sp A a R v ps rdn u ds dn) (t : ByteArray) : Mem w (wr.setCell ⟨A, 1, none⟩ (.string t)) Bf Sp buf sp A (a.1, t) R v ps rdn u ds dn := M.store 1 _ _ rfl

/-- 'rdn.Attributes = append(rdn.Attributes, attribute)': what stands behind it -/
theorem push_core {w1 : World} {gg cp : Nat} (M : Mem w wr Bf Sp buf sp A a R v ps rdn u ds dn)
    (hown1 : w1.ownsRow w.heap.size 50 1 (.slice (some ⟨gg, 0, none⟩) (rdn.length + 1) cp) (rdn.length + 1) (ps ++ [.pointer (some ⟨A, 0, none⟩)]))
    (hgrow : (wr.alloc (.cells #[.pointer (some ⟨A, 0, none⟩)] 50)).grownBy w1 v.ownBlock) (hat : v.ownBlock = some gg ∨ gg = wr.heap.size + 1) :
    K.Grew w (w1.setCell ⟨R, 0, none⟩ (.slice (some ⟨gg, 0, none⟩) (rdn.length + 1) cp)) ∧ BufP w.heap.size (w1.setCell ⟨R, 0, none⟩ (.slice (some ⟨gg, 0, none⟩) (rdn.length + 1) cp)) Bf buf ∧
      SpP (w1.setCell ⟨R, 0, none⟩ (.slice (some ⟨gg, 0, none⟩) (rdn.length + 1) cp)) Sp sp ∧ AttrP (w1.setCell ⟨R, 0, none⟩ (.slice (some ⟨gg, 0, none⟩) (rdn.length + 1) cp)) A a ∧
      RdnP w.heap.size (w1.setCell ⟨R, 0, none⟩ (.slice (some ⟨gg, 0, none⟩) (rdn.length + 1) cp)) All R (.slice (some ⟨gg, 0, none⟩) (rdn.length + 1) cp) (ps ++ [.pointer (some ⟨A, 0, none⟩)]) (rdn ++ [a]) ∧
      DnP w.heap.size (w1.setCell ⟨R, 0, none⟩ (.slice (some ⟨gg, 0, none⟩) (rdn.length + 1) cp)) (Done A R (.slice (some ⟨gg, 0, none⟩) (rdn.length + 1) cp)) u ds dn ∧
      wr.heap.size ≤ (w1.setCell ⟨R, 0, none⟩ (.slice (some ⟨gg, 0, none⟩) (rdn.length + 1) cp)).heap.size := by
  obtain ⟨⟨g, h1, h2, h3⟩, hI, hsp, ha, hr, hd⟩ := M
  have hb0 : Below wr.heap.size wr (wr.alloc (.cells #[.pointer (some ⟨A, 0, none⟩)] 50)) := (Below.refl _ wr).alloc (Nat.le_refl _) _
  have hrowW : ∀ g, v.ownBlock = some g → ∃ cs fz, (wr.alloc (.cells #[.pointer (some ⟨A, 0, none⟩)] 50)).heap[g]? = some (.cells cs 50 fz) := fun g hg => by
    obtain ⟨cur, hc⟩ := row_block hr.2.1 hg
    exact ⟨cur, (0, 0), (hb0.block g (lt_of hc)).trans hc⟩
  have s0 : ∀ p, Stays p wr (wr.alloc (.cells #[.pointer (some ⟨A, 0, none⟩)] 50)) := fun p => stays_below hb0
  have s1 : Stays (· ≠ 50) (wr.alloc (.cells #[.pointer (some ⟨A, 0, none⟩)] 50)) w1 := stays_grown hgrow hrowW
  have s01 : Stays (· ≠ 50) wr w1 := (s0 _).trans s1
  have hR1 : w1.heap[R]? = some (.cells #[v] 47 (0, 0)) := s01 _ _ _ _ (by decide) hr.1
  have s2 : Stays (· ≠ 47) w1 (w1.setCell ⟨R, 0, none⟩ (.slice (some ⟨gg, 0, none⟩) (rdn.length + 1) cp)) := stays_set hR1
  have s : Stays (fun t => t ≠ 50 ∧ t ≠ 47) wr (w1.setCell ⟨R, 0, none⟩ (.slice (some ⟨gg, 0, none⟩) (rdn.length + 1) cp)) := (s01.mono fun t ht => ht.1).trans (s2.mono fun t ht => ht.2)
  have hz : wr.heap.size ≤ w1.heap.size := by have := hgrow.size; simp at this; omega
  have hgb : ∀ k, v.ownBlock = some k → w.heap.size ≤ k := fun k hk => (hr.2.1.lt k hk).1
  have hlen : ps.length = rdn.length := by simpa using hr.2.1.1
  generalize hw2 : w1.setCell ⟨R, 0, none⟩ (.slice (some ⟨gg, 0, none⟩) (rdn.length + 1) cp) = w2 at *
  have hAA : AttrP w2 A a := s _ _ _ _ (by decide) ha
  refine ⟨?_, buf_keep hI (s.mono fun t ht => ?_), s _ _ _ _ (by decide) hsp, hAA, ⟨?_, ?_, ?_⟩, hd.keep (s.mono fun t ht => ?_) ?_, ?_⟩
  · subst hw2
    exact Below.setCell (Below.grown (Below.trans g (hb0.mono (Below.size g))) hgrow (by have := Below.size g; simp; omega) hgb) h3 _
  · rcases ht with rfl | rfl <;> decide
  · subst hw2; exact K.heap_setCell_at hR1 _
  · rw [List.length_append]
    subst hw2
    refine row_move hown1 fun k hk => ⟨(hown1.lt k hk).1, ?_⟩
    obtain ⟨cur, hc⟩ := row_block hown1 hk
    rw [s2 _ _ _ _ (by decide) hc, hc]
  · intro j hj
    rw [List.length_append] at hj
    rcases Nat.lt_or_ge j rdn.length with hj1 | hj1
    · rw [getD_app_lt (by omega), show atA (rdn ++ [a]) j = atA rdn j from by simp [atA, List.getD, List.getElem?_append_left hj1]]
      exact (hr.2.2 j hj1).keep (p := (· = 49)) (fun b cs t fz _ ht hb => ⟨s b cs t fz (by subst ht; decide) hb, trivial⟩) rfl
    · have hj2 : j = rdn.length := by simp at hj; omega
      subst hj2
      rw [show (ps ++ [Value.pointer (some ⟨A, 0, none⟩)]).getD rdn.length undef = .pointer (some ⟨A, 0, none⟩) from by rw [← hlen]; exact getD_app_eq, show atA (rdn ++ [a]) rdn.length = a from by simp [atA, List.getD]]
      exact ⟨A, trivial, rfl, hAA⟩
  · rcases ht with rfl | rfl <;> decide
  · intro b cs t fz hs ht hb
    have hne : v.ownBlock ≠ some b := hs.2.2
    have hbl := lt_of hb
    have e1 : w1.heap[b]? = some (.cells cs t fz) := (hgrow.block b (by simp; omega) (fun e => hne e.symm)).trans ((hb0.block b hbl).trans hb)
    refine ⟨?_, hs.1, hs.2.1, ?_⟩
    · subst hw2
      rw [Below.heap_setCell _ _ _ _ (by exact hs.2.1)]; exact e1
    · intro e
      simp [Value.ownBlock] at e
      subst e
      rcases hat with h | h
      · exact hne h
      · omega
  · subst hw2; simpa using hz

/-- .. and a new attribute behind it -/
theorem Mem.push {w1 : World} {gg cp : Nat} (M : Mem w wr Bf Sp buf sp A a R v ps rdn u ds dn)
    (hown1 : w1.ownsRow w.heap.size 50 1 (.slice (some ⟨gg, 0, none⟩) (rdn.length + 1) cp) (rdn.length + 1) (ps ++ [.pointer (some ⟨A, 0, none⟩)]))
    (hgrow : (wr.alloc (.cells #[.pointer (some ⟨A, 0, none⟩)] 50)).grownBy w1 v.ownBlock) (hat : v.ownBlock = some gg ∨ gg = wr.heap.size + 1) :
    Mem w ((w1.setCell ⟨R, 0, none⟩ (.slice (some ⟨gg, 0, none⟩) (rdn.length + 1) cp)).alloc (.cells #[.string ⟨#[]⟩, .string ⟨#[]⟩] 49)) Bf Sp buf sp w1.heap.size (⟨#[]⟩, ⟨#[]⟩) R
      (.slice (some ⟨gg, 0, none⟩) (rdn.length + 1) cp) (ps ++ [.pointer (some ⟨A, 0, none⟩)]) (rdn ++ [a]) u ds dn := by
  obtain ⟨hg, hI, hsp, ha, hr, hd, hz⟩ := push_core M hown1 hgrow hat
  obtain ⟨⟨_, h1, h2, h3⟩, _⟩ := M
  have hsz : (w1.setCell ⟨R, 0, none⟩ (.slice (some ⟨gg, 0, none⟩) (rdn.length + 1) cp)).heap.size = w1.heap.size := by simp
  generalize w1.setCell ⟨R, 0, none⟩ (.slice (some ⟨gg, 0, none⟩) (rdn.length + 1) cp) = w2 at *
  have hb : Below w2.heap.size w2 (w2.alloc (.cells #[.string ⟨#[]⟩, .string ⟨#[]⟩] 49)) := (Below.refl _ w2).alloc (Nat.le_refl _) _
  rw [← hsz]
  refine ⟨⟨hg.then hb, Below.size hg, h2, h3⟩, buf_keep hI (stays_below hb), stays_below (p := fun _ => True) hb _ _ _ _ trivial hsp, K.heap_alloc_at _ _, hr.keep (stays_below hb) (fun b cs t fz _ _ h => ?_), hd.keep (stays_below hb) (fun b cs t fz hs _ h => ?_)⟩
  · have := lt_of h
    exact ⟨(hb.block b this).trans h, by omega⟩
  · have := lt_of h
    exact ⟨(hb.block b this).trans h, by omega, hs.2⟩

/-- 'dn.RDNs = append(dn.RDNs, rdn)': what stands behind it -/
theorem pushR_core {w1 : World} {gg cp : Nat} {S S' : Nat → Prop} (hg : K.Grew w wr) (hR : RdnP w.heap.size wr S' R v ps rdn) (hd : DnP w.heap.size wr S u ds dn)
    (hown1 : w1.ownsRow w.heap.size 48 1 (.slice (some ⟨gg, 0, none⟩) (dn.length + 1) cp) (dn.length + 1) (ds ++ [.pointer (some ⟨R, 0, none⟩)]))
    (hgrow : (wr.alloc (.cells #[.pointer (some ⟨R, 0, none⟩)] 48)).grownBy w1 u.ownBlock) {T : Nat → Prop} (hT : ∀ b, b < wr.heap.size → S b → T b)
    (hT2 : T R ∧ (∀ g, v.ownBlock = some g → T g) ∧ ∀ b, b < wr.heap.size → S' b → T b) :
    K.Grew w (w1.setCell ⟨w.heap.size, 0, none⟩ (.slice (some ⟨gg, 0, none⟩) (dn.length + 1) cp)) ∧
      Stays (fun t => t ≠ 44 ∧ t ≠ 48) wr (w1.setCell ⟨w.heap.size, 0, none⟩ (.slice (some ⟨gg, 0, none⟩) (dn.length + 1) cp)) ∧ wr.heap.size ≤ w1.heap.size ∧
      DnP w.heap.size (w1.setCell ⟨w.heap.size, 0, none⟩ (.slice (some ⟨gg, 0, none⟩) (dn.length + 1) cp)) T (.slice (some ⟨gg, 0, none⟩) (dn.length + 1) cp) (ds ++ [.pointer (some ⟨R, 0, none⟩)]) (dn ++ [rdn]) := by
  have hb0 : Below wr.heap.size wr (wr.alloc (.cells #[.pointer (some ⟨R, 0, none⟩)] 48)) := (Below.refl _ wr).alloc (Nat.le_refl _) _
  have hrowW : ∀ g, u.ownBlock = some g → ∃ cs fz, (wr.alloc (.cells #[.pointer (some ⟨R, 0, none⟩)] 48)).heap[g]? = some (.cells cs 48 fz) := fun g hg => by
    obtain ⟨cur, hc⟩ := row_block hd.2.1 hg
    exact ⟨cur, (0, 0), (hb0.block g (lt_of hc)).trans hc⟩
  have s01 : Stays (· ≠ 48) wr w1 := (stays_below hb0).trans (stays_grown hgrow hrowW)
  have hD1 : w1.heap[w.heap.size]? = some (.cells #[u] 44 (0, 0)) := s01 _ _ _ _ (by decide) hd.1
  have s2 : Stays (· ≠ 44) w1 (w1.setCell ⟨w.heap.size, 0, none⟩ (.slice (some ⟨gg, 0, none⟩) (dn.length + 1) cp)) := stays_set hD1
  have s : Stays (fun t => t ≠ 44 ∧ t ≠ 48) wr (w1.setCell ⟨w.heap.size, 0, none⟩ (.slice (some ⟨gg, 0, none⟩) (dn.length + 1) cp)) := (s01.mono fun t ht => ht.2).trans (s2.mono fun t ht => ht.1)
  have hz : wr.heap.size ≤ w1.heap.size := by have := hgrow.size; simp at this; omega
  have hgb : ∀ k, u.ownBlock = some k → w.heap.size ≤ k := fun k hk => (hd.2.1.lt k hk).1
  have hlen : ds.length = dn.length := by simpa using hd.2.1.1
  have hk : ∀ (q : TypeId → Prop), (∀ t, q t → t ≠ 44 ∧ t ≠ 48) → ∀ U : Nat → Prop, (∀ b, b < wr.heap.size → U b → T b) → Keeps q U T wr (w1.setCell ⟨w.heap.size, 0, none⟩ (.slice (some ⟨gg, 0, none⟩) (dn.length + 1) cp)) := fun q hq U hU b cs t fz hs ht hb => ⟨s b cs t fz (hq t ht) hb, hU b (lt_of hb) hs⟩
  refine ⟨?_, s, hz, ?_, ?_, ?_⟩
  · exact Below.setCell (Below.grown (Below.trans hg (hb0.mono (Below.size hg))) hgrow (by have := Below.size hg; simp; omega) hgb) (Nat.le_refl _) _
  · exact K.heap_setCell_at hD1 _
  · rw [List.length_append]
    refine row_move hown1 fun k hk => ⟨(hown1.lt k hk).1, ?_⟩
    obtain ⟨cur, hc⟩ := row_block hown1 hk
    rw [s2 _ _ _ _ (by decide) hc, hc]
  · intro j hj
    rw [List.length_append] at hj
    rcases Nat.lt_or_ge j dn.length with hj1 | hj1
    · rw [getD_app_lt (by omega), show Dn.at' (dn ++ [rdn]) j = Dn.at' dn j from by simp [Dn.at', List.getD, List.getElem?_append_left hj1]]
      exact (hd.2.2 j hj1).keep (hk (fun t => t = 47 ∨ t = 49 ∨ t = 50) (fun t ht => by rcases ht with rfl | rfl | rfl <;> decide) S hT) (.inl rfl) (.inr (.inl rfl)) (.inr (.inr rfl))
    · have hj2 : j = dn.length := by simp at hj; omega
      subst hj2
      rw [show (ds ++ [Value.pointer (some ⟨R, 0, none⟩)]).getD dn.length undef = .pointer (some ⟨R, 0, none⟩) from by rw [← hlen]; exact getD_app_eq, show Dn.at' (dn ++ [rdn]) dn.length = rdn from by simp [Dn.at', List.getD]]
      refine ⟨R, v, ps, hT2.1, rfl, s _ _ _ _ (by decide) hR.1, ⟨row_move hR.2.1 fun g hg => ⟨Nat.zero_le _, ?_⟩, hT2.2.1⟩, fun i hi => (hR.2.2 i hi).keep (hk (· = 49) (fun t ht => by subst ht; decide) S' hT2.2.2) rfl⟩
      obtain ⟨cur, hc⟩ := row_block hR.2.1 hg
      rw [s _ _ _ _ (by decide) hc, hc]

/-- .. and a new part behind it -/
theorem Mem.pushR {w1 : World} {gg cp : Nat} (M : Mem w wr Bf Sp buf sp A a R v ps rdn u ds dn)
    (hown1 : w1.ownsRow w.heap.size 48 1 (.slice (some ⟨gg, 0, none⟩) (dn.length + 1) cp) (dn.length + 1) (ds ++ [.pointer (some ⟨R, 0, none⟩)]))
    (hgrow : (wr.alloc (.cells #[.pointer (some ⟨R, 0, none⟩)] 48)).grownBy w1 u.ownBlock) :
    Mem w (((w1.setCell ⟨w.heap.size, 0, none⟩ (.slice (some ⟨gg, 0, none⟩) (dn.length + 1) cp)).alloc (.cells #[.slice (some ⟨w1.heap.size + 1, 0, none⟩) 0 0] 47)).alloc (.cells #[] 50)) Bf Sp buf sp A a
      w1.heap.size (.slice (some ⟨w1.heap.size + 1, 0, none⟩) 0 0) [] [] (.slice (some ⟨gg, 0, none⟩) (dn.length + 1) cp) (ds ++ [.pointer (some ⟨R, 0, none⟩)]) (dn ++ [rdn]) := by
  obtain ⟨⟨hg, h1, h2, h3⟩, hI, hsp, ha, hr, hd⟩ := M
  have hAR : R ≠ A := fun e => by
    have x := hr.1
    unfold AttrP at ha
    rw [e, ha] at x
    simp at x
  have hAv : ∀ g, v.ownBlock = some g → g ≠ A := fun g hg e => by
    obtain ⟨cur, hc⟩ := row_block hr.2.1 hg
    unfold AttrP at ha
    rw [e, ha] at hc
    simp at hc
  have hRl := lt_of hr.1
  obtain ⟨g2, s, hz, hd2⟩ := pushR_core (T := fun b => b ≠ A ∧ b < wr.heap.size) hg hr hd hown1 hgrow (fun b hb hs => ⟨hs.1, hb⟩) ⟨⟨hAR, hRl⟩, fun g hg => ⟨hAv g hg, (hr.2.1.lt g hg).2⟩, fun b hb hs => ⟨hs, hb⟩⟩
  have hsz : (w1.setCell ⟨w.heap.size, 0, none⟩ (.slice (some ⟨gg, 0, none⟩) (dn.length + 1) cp)).heap.size = w1.heap.size := by simp
  generalize w1.setCell ⟨w.heap.size, 0, none⟩ (.slice (some ⟨gg, 0, none⟩) (dn.length + 1) cp) = w2 at *
  have hz2 : wr.heap.size ≤ w2.heap.size := by rw [hsz]; exact hz
  rw [← hsz]
  have hb : Below w2.heap.size w2 ((w2.alloc (.cells #[.slice (some ⟨w2.heap.size + 1, 0, none⟩) 0 0] 47)).alloc (.cells #[] 50)) := ((Below.refl _ w2).alloc (Nat.le_refl _) _).alloc (by simp) _
  have e1 : ((w2.alloc (.cells #[.slice (some ⟨w2.heap.size + 1, 0, none⟩) 0 0] 47)).alloc (.cells #[] 50)).heap[w2.heap.size]? = some (.cells #[.slice (some ⟨w2.heap.size + 1, 0, none⟩) 0 0] 47 (0, 0)) := by
    rw [Below.heap_alloc _ _ _ (by simp)]; exact K.heap_alloc_at _ _
  have e2 : ((w2.alloc (.cells #[.slice (some ⟨w2.heap.size + 1, 0, none⟩) 0 0] 47)).alloc (.cells #[] 50)).heap[w2.heap.size + 1]? = some (.cells #[] 50 (0, 0)) := by
    have h := K.heap_alloc_at (w2.alloc (.cells #[.slice (some ⟨w2.heap.size + 1, 0, none⟩) 0 0] 47)) (.cells #[] 50)
    have e : (w2.alloc (.cells #[.slice (some ⟨w2.heap.size + 1, 0, none⟩) 0 0] 47)).heap.size = w2.heap.size + 1 := by simp
    rw [e] at h; exact h
  have hgs := Below.size g2
  generalize (w2.alloc (.cells #[.slice (some ⟨w2.heap.size + 1, 0, none⟩) 0 0] 47)).alloc (.cells #[] 50) = w3 at *
  have s3 : Stays (fun t => t ≠ 44 ∧ t ≠ 48) wr w3 := s.trans (stays_below hb)
  refine ⟨⟨g2.then hb, h1, h2, by omega⟩, buf_keep hI (s3.mono fun t ht => ?_), s3 _ _ _ _ (by decide) hsp, s3 _ _ _ _ (by decide) ha, ⟨e1, ⟨rfl, .inr ⟨w2.heap.size + 1, 0, #[], rfl, by omega, e2, Nat.le_refl _, by unfold maxLen; omega, rfl, rfl⟩⟩, fun j hj => by simp at hj⟩, hd2.keep (stays_below hb) (fun b cs t fz hs _ h => ?_)⟩
  · rcases ht with rfl | rfl <;> decide
  · refine ⟨(hb.block b (lt_of h)).trans h, hs.1, by have := hs.2; omega, fun e => ?_⟩
    simp [Value.ownBlock] at e
    have := hs.2; omega
end
end Go.Proofs.YtnjjhklefamaoaaDoor
