/-
  pieces.Read: the bytes that are left, piece by piece.
-/
import Derived.Test.YtkkedekgniffoaaDoorUn
import Derived.Laws.CopyOwn
import Derived.OwnWalk
namespace Go.Proofs.YtkkedekgniffoaaDoor
open Go.RowKit

/-- a piece: its block, its bytes, how many of them have been taken, the slice's capacity -/
structure Pc where
  g : Nat
  B : List UInt8
  o : Nat
  c : Nat
def Pc.left (p : Pc) : List UInt8 := p.B.drop p.o
def Pc.len (p : Pc) : Nat := p.B.length - p.o
theorem Pc.left_length (p : Pc) : p.left.length = p.len := by simp [Pc.left, Pc.len]
def flat (F : List Pc) : List UInt8 := F.flatMap Pc.left
/-- the value that speaks of a piece -/
def PcV (p : Pc) (v : Value) : Prop := ∃ q, v = .slice (some ⟨p.g, q, none⟩) p.len p.c ∧ (0 < p.len → q = p.o)
def PcOk (w : World) (p : Pc) : Prop := ByteRow w p.g p.B ∧ p.o ≤ p.B.length ∧ p.len ≤ p.c ∧ p.B.length ≤ 1000000
/-- the connection's row -/
def PAt (w : World) (P L np cp a : Nat) : Prop := w.heap[P]? = some (.cells #[.slice (some ⟨L, 0, none⟩) np cp, .int .i64 a] 69 (0, 0))
theorem PAt.c0 {w : World} {P L np cp a : Nat} (h : PAt w P L np cp a) : w.cell? ⟨P, 0, none⟩ = some (.slice (some ⟨L, 0, none⟩) np cp) := by unfold PAt at h; simp [World.cell?, h]
theorem PAt.c1 {w : World} {P L np cp a : Nat} (h : PAt w P L np cp a) : w.cell? ⟨P, 1, none⟩ = some (.int .i64 a) := by unfold PAt at h; simp [World.cell?, h]
theorem PAt.fz {w : World} {P L np cp a : Nat} (h : PAt w P L np cp a) (i : Nat) : w.frozen? ⟨P, i, none⟩ = false := by unfold PAt at h; simp [World.frozen?, h]
theorem PAt.set {w : World} {P L np cp a : Nat} (h : PAt w P L np cp a) (b : Nat) : PAt (w.setCell ⟨P, 1, none⟩ (.int .i64 b)) P L np cp b := by
  unfold PAt at *; rw [K.heap_setCell_at h]; simp
theorem PAt.at {w w' : World} {P L np cp a : Nat} (h : PAt w P L np cp a) (e : w'.heap[P]? = w.heap[P]?) : PAt w' P L np cp a := e.trans h
/-- the row of the pieces: from place a on, F -/
def LAt (w : World) (L a : Nat) (F : List Pc) : Prop := ∃ cs, w.heap[L]? = some (.cells cs 50 (0, 0)) ∧ ∀ j p, F[j]? = some p → ∃ v, cs[a + j]? = some v ∧ PcV p v
theorem LAt.at {w w' : World} {L a : Nat} {F : List Pc} (h : LAt w L a F) (e : w'.heap[L]? = w.heap[L]?) : LAt w' L a F := by
  obtain ⟨cs, h1, h2⟩ := h
  exact ⟨cs, e.trans h1, h2⟩
theorem LAt.cell {w : World} {L a j : Nat} {F : List Pc} {p : Pc} (h : LAt w L a F) (hp : F[j]? = some p) : ∃ v, w.cell? ⟨L, a + j, none⟩ = some v ∧ PcV p v := by
  obtain ⟨cs, h1, h2⟩ := h
  obtain ⟨v, hv, hpv⟩ := h2 j p hp
  exact ⟨v, by simp [World.cell?, h1, hv], hpv⟩
theorem LAt.fz {w : World} {L a : Nat} {F : List Pc} (h : LAt w L a F) (i : Nat) : w.frozen? ⟨L, i, none⟩ = false := by
  obtain ⟨cs, h1, _⟩ := h
  simp [World.frozen?, h1]
theorem LAt.drop {w : World} {L a : Nat} {F : List Pc} (h : LAt w L a F) (i : Nat) : LAt w L (a + i) (F.drop i) := by
  obtain ⟨cs, h1, h2⟩ := h
  refine ⟨cs, h1, fun j p hj => ?_⟩
  rw [List.getElem?_drop] at hj
  have := h2 (i + j) p hj
  rwa [← Nat.add_assoc] at this
theorem LAt.set {w : World} {L a : Nat} {F : List Pc} {p q : Pc} {v : Value} (h : LAt w L a (p :: F)) (hv : PcV q v) : LAt (w.setCell ⟨L, a, none⟩ v) L a (q :: F) := by
  obtain ⟨cs, h1, h2⟩ := h
  obtain ⟨u, hu, _⟩ := h2 0 p rfl
  have hlt := (Array.getElem?_eq_some_iff.1 hu).1
  refine ⟨_, K.heap_setCell_at h1 _, fun j r hj => ?_⟩
  rw [Array.getElem?_setIfInBounds]
  cases j with
  | zero => cases hj; exact ⟨v, by simpa using hlt, hv⟩
  | succ j =>
    obtain ⟨x, hx, hxv⟩ := h2 (j + 1) r hj
    exact ⟨x, by rw [if_neg (by omega)]; exact hx, hxv⟩
/-- a buffer that has just been made -/
def FRow (w : World) (g : Nat) (l : List UInt8) : Prop := w.heap[g]? = some (.cells (l.map bv).toArray 5 (0, 0))
theorem FRow.row {w : World} {g : Nat} {l : List UInt8} (h : FRow w g l) : ByteRow w g l :=
  ⟨_, _, h, by simp, Or.inr ⟨rfl, rfl⟩, fun j c hj => by simp [hj]⟩
theorem FRow.at {w w' : World} {g : Nat} {l : List UInt8} (h : FRow w g l) (e : w'.heap[g]? = w.heap[g]?) : FRow w' g l := e.trans h
/-- bytes laid over others -/
def over (l : List UInt8) (o : Nat) (m : List UInt8) : List UInt8 := l.take o ++ (m ++ l.drop (o + m.length))

/-- the connection: what is left of it -/
structure Cn (w : World) (P L np cp a : Nat) (F : List Pc) : Prop where
  p : PAt w P L np cp a
  l : LAt w L a F
  n : a + F.length = np
  f : ∀ x ∈ F, PcOk w x
  c : np ≤ cp

def ReadPost (P L np cp gb ob n : Nat) (Bb : List UInt8) (F : List Pc) (w : World) (e : Ending) (w' : World) : Prop :=
  (flat F = [] ∧ ∃ te ve, e = .returned (.tuple #[.int .i64 0, .iface te ve]) ∧ But (fun k => k = P ∨ k = L ∨ k = gb) w w') ∨
  (∃ (k a' : Nat) (F' : List Pc) (i : Nat), 0 < k ∧ k ≤ n ∧ k ≤ (flat F).length ∧ e = .returned (.tuple #[.int .i64 k, .nilIface]) ∧ Cn w' P L np cp a' F' ∧ flat F' = (flat F).drop k ∧ FRow w' gb (over Bb ob ((flat F).take k)) ∧
    But (fun k => k = P ∨ k = L ∨ k = gb) w w' ∧ F'.map Pc.g = (F.map Pc.g).drop i)

theorem flat_cons (p : Pc) (F : List Pc) : flat (p :: F) = p.left ++ flat F := rfl
theorem over_length (l : List UInt8) (o : Nat) (m : List UInt8) (h : o + m.length ≤ l.length) : (over l o m).length = l.length := by simp [over]; omega

/-- 'copy' of bytes into a buffer that has just been made -/
theorem wpList_copy_b {w : World} {ops : Array Oper} {rest : List Oper} {o : Oper} {a : Act} {Q : Exit → Act → World → Prop} (hgd : o.guard = none) (d s : Operand)
    (ho : o.op = .call { callee := .builtin .copy, args := #[d, s], argTypes := #[50, 50] }) (gb ob n cap : Nat) (ad : Addr) (m c : Nat) (hd : a.eval d = .slice (some ⟨gb, ob, none⟩) n cap) (hs : a.eval s = .slice (some ad) m c)
    (l mm : List UInt8) (hg : FRow w gb l) (hm : ∀ j c, mm[j]? = some c → w.cell? (ad.add j) = some (bv c)) (hk : mm.length = Nat.min m n) (hfit : ob + mm.length ≤ l.length)
    (h : ∀ w', FRow w' gb (over l ob mm) → But (fun k => k = gb) w w' → wpList Tryd.prog ops Q rest (a.put o.dst (.int .i64 (mm.length : Int))) w') : wpList Tryd.prog ops Q (o :: rest) a w := by
  refine wpList_copy_own hgd d s 50 50 ho 5 Tryd.underlying50 (by kernel_rfl) gb ob n cap ad m c hd hs (l.map bv).toArray 5 hg (mm.map bv) (by simpa using hk) ?_ (by simpa using hfit) ?_ ?_
  · intro j v hj
    rw [List.getElem?_map] at hj
    cases hc : mm[j]? with
    | none => rw [hc] at hj; cases hj
    | some c => rw [hc] at hj; cases hj; exact hm j c hc
  · intro v hv
    obtain ⟨c, _, rfl⟩ := List.mem_map.1 hv
    rfl
  · have h2 := h (w.setRow gb ((l.map bv).toArray.toList.take ob ++ (mm.map bv ++ (l.map bv).toArray.toList.drop (ob + (mm.map bv).length))).toArray) ?_ ?_
    · simpa [goInt] using h2
    · unfold FRow
      rw [setRow_heap w gb _ _ 5 (0, 0) hg]
      simp [over, List.map_take, List.map_drop]
    · exact ⟨rfl, rfl, rfl, by simp, fun k _ hs => setRow_other w gb k _ hs⟩

set_option maxHeartbeats 4000000 in
set_option maxRecDepth 100000 in
theorem read_any (P L np cp a gb ob n cap : Nat) (Bb : List UInt8) (F : List Pc) (w : World) (hC : Cn w P L np cp a F) (hB : FRow w gb Bb) (hn0 : 0 < n) (hob : ob + n ≤ Bb.length)
    (hne : ∀ x ∈ F, x.g ≠ gb) (hnp : np ≤ 1000000) (hcp : np ≤ cp) {te : TypeId} {ve : Value} (hE : w.cell? ⟨1, 0, none⟩ = some (.iface te ve)) (h1P : P ≠ 1) :
    Calls Tryd.prog 54 #[.pointer (some ⟨P, 0, none⟩), .slice (some ⟨gb, ob, none⟩) n cap] w (ReadPost P L np cp gb ob n Bb F w) := by
  have HC := Lib.hid hC
  have HB := Lib.hid hB
  have hgP : gb ≠ P := hB.row.ne hC.p (by decide)
  have hgL : gb ≠ L := by obtain ⟨cs, h1, _⟩ := hC.l; exact hB.row.ne h1 (by decide)
  have hPL : P ≠ L := by
    rintro rfl
    obtain ⟨cs, h1, _⟩ := hC.l
    have h2 := hC.p
    unfold PAt at h2
    rw [h2] at h1
    cases h1
  have HNE := Lib.hid hne
  have haF := hC.n
  clear hC hB hne
  go_enter Tryd.func54, Tryd.ntmps54
  go_wp2_with fail
  go_loopg [4, 5, 6] (F.length + 1) (fun gk x4 x5 _ x => x4 = .int .i64 0 ∧ x5 = .nilIface ∧ ∃ (i : Nat) (G : List Pc), gk = G.length + 1 ∧ F.drop i = G ∧ a + i + G.length = np ∧ Hid (PAt x P L np cp (a + i) ∧ flat F = flat G ∧ But (fun k => k = P) w x))
  case atStart => exact ⟨rfl, rfl, 0, F, rfl, rfl, by omega, Lib.hid ⟨HC.out.p, rfl, But.refl _ _⟩⟩
  case round =>
    obtain ⟨rfl, rfl, i, G, rfl, hG, haG, HJ⟩ := hrel
    have HG := Lib.hid hG
    clear hG
    have p0 := HJ.out.1.c0
    have p1 := HJ.out.1.c1
    cases G with
    | nil =>
      have e1 : ¬ (((a + i : Nat) : Int) < (np : Int)) := by simp at haG; omega
      have hE1 : wr.cell? ⟨1, 0, none⟩ = some (.iface te ve) := by
        have h := HJ.out.2.2.block 1 (World.block_lt_of_cell? w _ hE) (by simpa using h1P.symm)
        simp only [World.cell?] at hE ⊢
        rw [h]; exact hE
      go_wp2_with fail
      go_quiet (fail)
      go_wp2_with fail
      go_quiet (fail)
      go_wp2_with fail
      go_ret2
      exact Or.inl ⟨HJ.out.2.1, te, ve, rfl, ((HJ.out.2.2.mono (fun _ _ h => Or.inl h)).drewN _).drewN _⟩
    | cons p G =>
      have e1 : (((a : Int) + (i : Int))) < (np : Int) := by simp at haG; omega
      have e0 : (0 : Int) ≤ (a : Int) + (i : Int) := by omega
      have e2 : ((a : Int) + (i : Int)).toNat = a + i := by omega
      have hLw : LAt wr L (a + i) (p :: G) := by rw [← HG.out]; exact (HC.out.l.drop i).at (HJ.out.2.2.block L (by obtain ⟨cs, h1, _⟩ := HC.out.l; exact (Array.getElem?_eq_some_iff.1 h1).1) (Ne.symm hPL))
      have hpF : p ∈ F := by have : p ∈ F.drop i := by rw [HG.out]; exact List.mem_cons_self
                             exact List.mem_of_mem_drop this
      obtain ⟨v, lc, q, rfl, hq⟩ := hLw.cell (j := 0) rfl
      simp only [Nat.add_zero] at lc
      have hpw : PcOk wr p := by
        have h := HC.out.f p hpF
        exact ⟨h.1.at (HJ.out.2.2.block _ h.1.lt (by intro e; have := h.1.ne HC.out.p (by decide); exact this e)), h.2⟩
      have HL := Lib.hid hLw
      have HP := Lib.hid hpw
      have HQ := Lib.hid (And.intro hq hpF)
      have hlen : p.len ≤ p.c := hpw.2.2.1
      have hlen2 : p.len ≤ 1000000 := by have := hpw.2.2.2; unfold Pc.len; omega
      clear hLw hpw hq hpF
      obtain ⟨m, hm⟩ : ∃ m, p.len = m := ⟨_, rfl⟩
      rw [hm] at lc hlen hlen2
      have HM := Lib.hid hm
      clear hm
      rcases Nat.eq_zero_or_pos m with rfl | hm0
      · have f1 := HJ.out.1.fz 1
        have HS := Lib.hid (HJ.out.1.set (a + i + 1))
        go_wp2_with fail
        go_quiet (fail)
        go_wp2_with fail
        go_quiet (fail)
        go_wp2_with fail
        go_roundg (G.length + 1)
        case measure => simp
        case rel =>
          refine ⟨rfl, rfl, i + 1, G, rfl, ?_, by simp at haG; omega, Lib.hid ⟨?_, ?_, ?_⟩⟩
          · have h := congrArg (List.drop 1) HG.out
            rw [List.drop_drop] at h
            exact h
          · have h := HS.out
            exact h.at rfl
          · rw [HJ.out.2.1, flat_cons, List.length_eq_zero_iff.mp (p.left_length.trans HM.out), List.nil_append]
          · have h : But (fun k => k = P) w (wr.setCell ⟨P, 1, none⟩ (.int .i64 ((a + i + 1 : Nat) : Int))) := HJ.out.2.2.setCell _ _ rfl
            exact ⟨h.os, h.tape, h.output, h.size, h.block⟩
      · obtain rfl : q = p.o := HQ.out.1 (by rw [HM.out]; exact hm0)
        have hmz : ¬ ((m : Int) = 0) := by omega
        have hmz' : m ≠ 0 := by omega
        obtain ⟨k, hk⟩ : ∃ k, Nat.min m n = k := ⟨_, rfl⟩
        have hk1 : 0 < k := by subst hk; simp only [Nat.min_def]; split <;> omega
        have hk2 : k ≤ m := by subst hk; exact Nat.min_le_left _ _
        have hk3 : k ≤ n := by subst hk; exact Nat.min_le_right _ _
        have hXc : ∀ j c, (p.left.take k)[j]? = some c → wr.cell? ((⟨p.g, p.o, none⟩ : Addr).add j) = some (bv c) := by
          intro j c hj
          rw [K.addr_add _ rfl]
          have hj2 : j < k := by have := (List.getElem?_eq_some_iff.1 hj).1; simp at this; omega
          rw [List.getElem?_take, if_pos hj2] at hj
          exact HP.out.1.cell (by rw [← hj]; simp [Pc.left])
        have hXl : (p.left.take k).length = k := by simp [p.left_length, HM.out]; omega
        have hgbw : FRow wr gb Bb := HB.out.at (HJ.out.2.2.block gb HB.out.row.lt (by simpa using hgP))
        have hne1 : p.g ≠ gb := HNE.out p HQ.out.2
        have HXX := Lib.hid (And.intro hXc (And.intro hXl hgbw))
        have HK := Lib.hid hk
        clear hXc hXl hgbw hk
        have HBL := Lib.hid (show Bb.length = Bb.length from rfl)
        go_wp2_with fail
        go_quiet (fail)
        revert nq
        intro n1
        go_wp2_with fail
        go_quiet (fail)
        have HY := Lib.hid (show ((wr.drewN n1).drewN nq).heap = wr.heap ∧ But (fun k => k = P) wr ((wr.drewN n1).drewN nq) from ⟨rfl, ((But.refl _ _).drewN _).drewN _⟩)
        have y0 : ((wr.drewN n1).drewN nq).cell? ⟨P, 0, none⟩ = _ := p0
        have y1 : ((wr.drewN n1).drewN nq).cell? ⟨P, 1, none⟩ = _ := p1
        have yl : ((wr.drewN n1).drewN nq).cell? ⟨L, a + i, none⟩ = _ := lc
        generalize (wr.drewN n1).drewN nq = y at HY y0 y1 yl ⊢
        go_wp2_with fail
        go_still_tail 11, (by kernel_rfl)
        refine wpList_copy_b rfl (.tmp 36) (.tmp 46) rfl gb ob n cap ⟨p.g, p.o, none⟩ m p.c rfl rfl Bb (p.left.take k) (HXX.out.2.2.at (by show y.heap[gb]? = _; rw [HY.out.1])) (by intro j c hj; have h := HXX.out.1 j c hj; show y.cell? _ = _; simp only [World.cell?] at h ⊢; rw [HY.out.1]; exact h) (by rw [HXX.out.2.1]; exact HK.out.symm) (by rw [HXX.out.2.1]; omega) ?_
        intro z hzr hzb
        rw [HXX.out.2.1]
        have hzz : But (fun k => k = gb) wr z := ⟨hzb.os.trans HY.out.2.os, hzb.tape.trans HY.out.2.tape, hzb.output.trans HY.out.2.output, by have h1 : y.heap = wr.heap := HY.out.1; have := hzb.size; rw [← h1]; exact this, fun k hk hs => (hzb.block k (by show k < y.heap.size; rw [HY.out.1]; exact hk) hs).trans (by show y.heap[k]? = _; rw [HY.out.1])⟩
        have HZ := Lib.hid (And.intro hzr hzz)
        have hPz : PAt z P L np cp (a + i) := HJ.out.1.at (hzz.block P (by exact (Array.getElem?_eq_some_iff.1 HJ.out.1).1) (Ne.symm hgP))
        have hLz : LAt z L (a + i) (p :: G) := HL.out.at (hzz.block L (by obtain ⟨cs, h1, _⟩ := HL.out; exact (Array.getElem?_eq_some_iff.1 h1).1) (Ne.symm hgL))
        have z0 := hPz.c0
        have z1 := hPz.c1
        have zl : z.cell? ⟨L, a + i, none⟩ = some (.slice (some ⟨p.g, p.o, none⟩) m p.c) := by
          have h := hzz.block L (by obtain ⟨cs, h1, _⟩ := HL.out; exact (Array.getElem?_eq_some_iff.1 h1).1) (Ne.symm hgL)
          simp only [World.cell?] at lc ⊢
          rw [h]; exact lc
        have zf := hLz.fz (a + i)
        have HZ2 := Lib.hid (And.intro hPz hLz)
        clear hzr hzb hzz hPz hLz
        have u1 : (0 : Int) ≤ (k : Int) := by omega
        have u2 : (k : Int) ≤ (m : Int) := by omega
        have u3 : (k : Int) ≤ (p.c : Int) := by omega
        have u4 : (m : Int) ≤ (p.c : Int) := by omega
        clear y0 y1 yl
        have HEND : Hid (∀ v, PcV ⟨p.g, p.B, p.o + k, p.c - k⟩ v → ReadPost P L np cp gb ob n Bb F w (.returned (.tuple #[.int .i64 k, .nilIface])) (z.setCell ⟨L, a + i, none⟩ v).drew) := by
          refine Lib.hid fun v hv => Or.inr ⟨k, a + i, ⟨p.g, p.B, p.o + k, p.c - k⟩ :: G, i, hk1, hk3, ?_, rfl, ?_, ?_, ?_, ?_, ?_⟩
          · rw [HJ.out.2.1, flat_cons, List.length_append, p.left_length, HM.out]; omega
          · refine ⟨HZ2.out.1.at (Below.heap_setCell _ _ _ _ hPL), ?_, by simpa using haG, ?_, hcp⟩
            · exact HZ2.out.2.set hv
            · intro x hx
              have hblk : ∀ x : Pc, x ∈ F → ByteRow w x.g x.B → ByteRow (z.setCell ⟨L, a + i, none⟩ v).drew x.g x.B := by
                intro x hxF hxr
                have h1 : x.g ≠ P := hxr.ne HC.out.p (by decide)
                have h2 : x.g ≠ L := by obtain ⟨cs, h1, _⟩ := HC.out.l; exact hxr.ne h1 (by decide)
                have h3 := hxr.at (HJ.out.2.2.block x.g hxr.lt h1)
                have h4 := h3.at (HZ.out.2.block x.g h3.lt (HNE.out x hxF))
                exact h4.at (Below.heap_setCell _ _ _ _ h2)
              rcases List.mem_cons.mp hx with rfl | hxG
              · have h := HC.out.f p HQ.out.2
                have hm := HM.out
                unfold Pc.len at hm
                exact ⟨hblk p HQ.out.2 h.1, by simp only; omega, by unfold Pc.len; simp only; omega, h.2.2.2⟩
              · have hxF : x ∈ F := by
                  have : x ∈ F.drop i := by rw [HG.out]; exact List.mem_cons_of_mem _ hxG
                  exact List.mem_of_mem_drop this
                have h := HC.out.f x hxF
                exact ⟨hblk x hxF h.1, h.2⟩
          · rw [HJ.out.2.1, flat_cons, flat_cons, List.drop_append_of_le_length (by rw [p.left_length, HM.out]; exact hk2)]
            simp [Pc.left, List.drop_drop]
          · rw [HJ.out.2.1, flat_cons, List.take_append_of_le_length (by rw [p.left_length, HM.out]; exact hk2)]
            exact HZ.out.1.at (Below.heap_setCell _ _ _ _ hgL)
          · have h1 : But (fun k => k = P ∨ k = L ∨ k = gb) w z := (HJ.out.2.2.mono fun _ _ h => Or.inl h).trans (HZ.out.2.mono fun _ _ h => Or.inr (Or.inr h))
            exact (h1.setCell ⟨L, a + i, none⟩ v (Or.inr (Or.inl rfl))).drewN 1
          · rw [← List.map_drop, HG.out]; rfl
        have HLEN := Lib.hid (show (⟨p.g, p.B, p.o + k, p.c - k⟩ : Pc).len = m - k from by have h := HM.out; unfold Pc.len at h ⊢; simp only; omega)
        by_cases hck : p.c = k
        · have hmk : m - k = 0 := by omega
          go_wp2_with fail
          go_still_tail 20, (by kernel_rfl)
          change wpList _ _ _ _ _ z.drew
          go_wp2_with fail
          go_ret2
          exact HEND.out _ ⟨p.o, by rw [HLEN.out, hmk]; show _ = Value.slice _ _ (p.c - k); rw [hck, Nat.sub_self], fun h => by rw [HLEN.out] at h; omega⟩
        · go_wp2_with fail
          go_still_tail 20, (by kernel_rfl)
          change wpList _ _ _ _ _ z.drew
          go_wp2_with fail
          go_ret2
          exact HEND.out _ ⟨_, by rw [HLEN.out], fun _ => rfl⟩
end Go.Proofs.YtkkedekgniffoaaDoor
