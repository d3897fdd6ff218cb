/-
  zzContainsAny over texts of ASCII letters: none of the letters stands there.
-/
import Derived.Test.YtocfcajafkkhdaaDoorMm
import Derived.Lib.OthersKept
import Derived.LoopTactic
import Derived.Deep.Cut
namespace Go.Proofs.YtocfcajafkkhdaaDoor
open Go.RowKit

def NonePost (v : Value) (w : World) (e : Ending) (w' : World) : Prop := e = .returned v ∧ Below w.heap.size w w'
set_option maxHeartbeats 4000000 in
set_option maxRecDepth 100000 in
theorem anyIndex_none (s ch : ByteArray) (w : World) (hs : s.size ≤ 100000) (hc : ch.size ≤ 1000) (h1 : ∀ i (h : i < s.size), s[i].toNat < 128) (h2 : ∀ i (h : i < ch.size), ch[i].toNat < 128) (hne : ∀ i (h : i < s.size) j (h' : j < ch.size), s[i] ≠ ch[j]) :
    Calls Tryd.prog 50 #[.string s, .string ch] w (NonePost (.int .i64 (-1)) w) := by
  have HH := Lib.hid (And.intro h1 (And.intro h2 hne))
  clear h1 h2 hne
  go_enter Tryd.func50, Tryd.ntmps50
  go_wp2_with fail
  have HS0 := Lib.hid (show (w.iter s 0).heap[w.heap.size]? = some (.stringIter s 0) ∧ Below w.heap.size w (w.iter s 0) ∧ w.heap.size < (w.iter s 0).heap.size from ⟨World.iter_heap w s 0, (Below.refl _ _).alloc (Nat.le_refl _) _, by simp [World.iter]⟩)
  go_loopg [] (s.size + 1) (fun gk wr => ∃ i : Nat, i ≤ s.size ∧ gk = s.size + 1 - i ∧ Hid (wr.heap[w.heap.size]? = some (.stringIter s i) ∧ Below w.heap.size w wr ∧ w.heap.size < wr.heap.size))
  case atStart => exact ⟨0, by omega, by omega, HS0⟩
  case round =>
    obtain ⟨i, hi, hg, HW⟩ := hrel
    by_cases hlt : i < s.size
    · have hnx : ∀ ty, (Instr.next (.pointer (some ⟨w.heap.size, 0, none⟩)) true ty).run Tryd.prog wr = .ok (.tuple #[.bool true, .int .i64 i, .int .i32 s[i].toNat]) (wr.iterAt w.heap.size s (i + 1)) := fun ty => Lib.run_next_ascii_at wr w.heap.size s i ty HW.out.1 hlt (HH.out.1 i hlt)
      have HV := Lib.hid (show (wr.iterAt w.heap.size s (i + 1)).heap[w.heap.size]? = some (.stringIter s (i + 1)) ∧ Below w.heap.size w (wr.iterAt w.heap.size s (i + 1)) ∧ w.heap.size < (wr.iterAt w.heap.size s (i + 1)).heap.size from
        ⟨Lib.iterAt_heap wr _ s i (i + 1) HW.out.1, Lib.below_iterAt HW.out.2.1 (Nat.le_refl _) s _, by rw [Lib.iterAt_size]; exact HW.out.2.2⟩)
      have HC := Lib.hid (fun j (h' : j < ch.size) => HH.out.2.2 i hlt j h')
      go_upto_region 4 with (fail)
      clear hnx
      generalize wr.iterAt w.heap.size s (i + 1) = wv at HV ⊢
      generalize s[i] = c at HC ⊢
      have HS1 := Lib.hid (show (wv.iter ch 0).heap[wv.heap.size]? = some (.stringIter ch 0) ∧ (wv.iter ch 0).heap[w.heap.size]? = some (.stringIter s (i + 1)) ∧ Below w.heap.size w (wv.iter ch 0) ∧ w.heap.size < (wv.iter ch 0).heap.size from
        ⟨World.iter_heap wv ch 0, (Below.heap_alloc _ _ _ HV.out.2.2).trans HV.out.1, HV.out.2.1.alloc (Nat.le_of_lt HV.out.2.2) _, by have := HV.out.2.2; simp [World.iter]; omega⟩)
      have hne := HV.out.2.2
      go_upto_region 5 with (fail)
      obtain ⟨gq, hgq⟩ : ∃ gq : Nat, gq = gk := ⟨_, rfl⟩
      subst hgq
      go_loopg [] (ch.size + 1) (fun g2 wi => ∃ j : Nat, j ≤ ch.size ∧ g2 = ch.size + 1 - j ∧ Hid (wi.heap[wv.heap.size]? = some (.stringIter ch j) ∧ wi.heap[w.heap.size]? = some (.stringIter s (i + 1)) ∧ Below w.heap.size w wi ∧ w.heap.size < wi.heap.size))
      case atStart => exact ⟨0, by omega, by omega, HS1⟩
      case round =>
        obtain ⟨j, hj, hg2, HI⟩ := hrel
        by_cases hlt2 : j < ch.size
        · have hnx : ∀ ty, (Instr.next (.pointer (some ⟨wv.heap.size, 0, none⟩)) true ty).run Tryd.prog wr = .ok (.tuple #[.bool true, .int .i64 j, .int .i32 ch[j].toNat]) (wr.iterAt wv.heap.size ch (j + 1)) := fun ty => Lib.run_next_ascii_at wr wv.heap.size ch j ty HI.out.1 hlt2 (HH.out.2.1 j hlt2)
          have HI2 := Lib.hid (show (wr.iterAt wv.heap.size ch (j + 1)).heap[wv.heap.size]? = some (.stringIter ch (j + 1)) ∧ (wr.iterAt wv.heap.size ch (j + 1)).heap[w.heap.size]? = some (.stringIter s (i + 1)) ∧ Below w.heap.size w (wr.iterAt wv.heap.size ch (j + 1)) ∧ w.heap.size < (wr.iterAt wv.heap.size ch (j + 1)).heap.size from
            ⟨Lib.iterAt_heap wr _ ch j (j + 1) HI.out.1, (Lib.iterAt_other wr wv.heap.size w.heap.size ch _ (by omega)).trans HI.out.2.1, Lib.below_iterAt HI.out.2.2.1 (by omega) ch _, by rw [Lib.iterAt_size]; exact HI.out.2.2.2⟩)
          have hcn := HC.out j hlt2
          have bne : (((c.toNat : Nat) : Int) == ((ch[j].toNat : Nat) : Int)) = false := ne_int hcn
          have bne2 : ¬ ((c.toNat : Nat) : Int) = ((ch[j].toNat : Nat) : Int) := by simpa using bne
          clear hcn
          go_wp2_with fail
          go_roundg (gk - 1)
          case measure => omega
          case rel => exact ⟨j + 1, by omega, by omega, HI2⟩
        · have hnx : ∀ ty, (Instr.next (.pointer (some ⟨wv.heap.size, 0, none⟩)) true ty).run Tryd.prog wr = .ok (.tuple #[.bool false]) wr := fun ty => Lib.run_next_end_at wr wv.heap.size ch j ty HI.out.1 hlt2
          go_wp2_with fail
          go_roundg (gq - 1)
          case measure => omega
          case rel => exact ⟨i + 1, by omega, by omega, Lib.hid ⟨HI.out.2.1, HI.out.2.2.1, HI.out.2.2.2⟩⟩
    · have hnx : ∀ ty, (Instr.next (.pointer (some ⟨w.heap.size, 0, none⟩)) true ty).run Tryd.prog wr = .ok (.tuple #[.bool false]) wr := fun ty => Lib.run_next_end_at wr w.heap.size s i ty HW.out.1 hlt
      go_wp2_with fail
      go_ret
      exact ⟨rfl, HW.out.2.1⟩
set_option maxRecDepth 100000 in
theorem any_none (s ch : ByteArray) (w : World) (hs : s.size ≤ 100000) (hc : ch.size ≤ 1000) (h1 : ∀ i (h : i < s.size), s[i].toNat < 128) (h2 : ∀ i (h : i < ch.size), ch[i].toNat < 128) (hne : ∀ i (h : i < s.size) j (h' : j < ch.size), s[i] ≠ ch[j]) :
    Calls Tryd.prog 36 #[.string s, .string ch] w (NonePost (.bool false) w) := by
  have h50 := anyIndex_none s ch w hs hc h1 h2 hne
  clear h1 h2 hne
  go_enter Tryd.func36, Tryd.ntmps36
  go_wp2_with fail
  refine h50.mono ?_
  rintro e w1 ⟨rfl, hb⟩
  go_wp2_with fail
  go_ret
  exact ⟨rfl, hb⟩
end Go.Proofs.YtocfcajafkkhdaaDoor
