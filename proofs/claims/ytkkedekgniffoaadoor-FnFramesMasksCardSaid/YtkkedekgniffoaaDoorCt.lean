/-
  wsHandleControlFrame: a ping, a pong, a close frame.
-/
import Derived.Test.YtkkedekgniffoaaDoorKp
namespace Go.Proofs.YtkkedekgniffoaaDoor
open Go.RowKit

def Tabs (w : World) : Prop := Lib.Utf8Tabs (Tryd.laysValid_ren.g 3) (Tryd.laysValid_ren.g 4) w

/-- how a control frame ends the connection -/
def CtlEnd (op rem : Nat) (key : List UInt8) (rs : List UInt8) (cl cl' : Nat) : Prop :=
  (rs.length < rem ∧ cl' = cl) ∨ (op = 8 ∧ rem ≤ rs.length ∧ ((Fr.closing (Fr.unm key 0 (rs.take rem)) = .err ∧ cl' = cl) ∨ Fr.closing (Fr.unm key 0 (rs.take rem)) = .closed cl'))

def CtlPost (B1 C R P L np cp g o m pos op nk cl : Nat) (kv : Value) (B : List UInt8) (F : List Pc) (r : RdV) (w : World) (e : Ending) (w' : World) : Prop :=
  ∃ (pos' : Nat) (ev : Value) (B2 : List UInt8), e = .returned (.tuple #[.int .u64 pos', ev]) ∧ B2.length = B.length ∧ ByteRow w' g B2 ∧ (∀ j, j < o + pos → B2[j]? = B[j]?) ∧
    But (fun k => k = P ∨ k = L ∨ k = R ∨ k = C ∨ k = g ∨ kv.ownBlock = some k) w w' ∧
    ((∃ te ve cl' kv', ev = .iface te ve ∧ CAt w' C kv' cl' ∧ CtlEnd op r.rem r.key (rest B (o + pos) F) cl cl') ∨
     (ev = .nilIface ∧ op ≠ 8 ∧ ∃ (a' i nk' : Nat) (F' : List Pc) (kv' : Value), pos ≤ pos' ∧ pos' ≤ m ∧ r.rem ≤ (rest B (o + pos) F).length ∧ rest B2 (o + pos') F' = (rest B (o + pos) F).drop r.rem ∧
       RdAt w' R { r with rem := 0, kp := r.rem % 4 } ∧ Cn w' P L np cp a' F' ∧ F'.map Pc.g = (F.map Pc.g).drop i ∧ CAt w' C kv' cl ∧ KOwn w' B1 kv' nk' ∧ nk' ≤ nk + 1))

/-- what a control frame finds -/
structure CtlPre (W0 : World) (B1 C R P L np cp a g o m c pos nk cl : Nat) (kv : Value) (B : List UInt8) (F : List Pc) (r : RdV) (w : World) : Prop where
  cn : Cn w P L np cp a F
  rd : RdAt w R r
  kp : r.kp = 0
  ca : CAt w C kv cl
  ko : KOwn w B1 kv nk
  b : ByteRow w g B
  om : o + m = B.length
  bs : B1 ≤ w.heap.size
  cb : C < B1
  rb : R < B1
  pb : P < B1
  lb : L < B1
  gb : g < B1
  fb : ∀ x ∈ F, x.g < B1 ∧ x.g ≠ g
  t : Tabs W0
  w0 : Below W0.heap.size W0 w
  p0 : W0.heap.size ≤ P
  l0 : W0.heap.size ≤ L
  r0 : W0.heap.size ≤ R
  q0 : W0.heap.size ≤ C
  g0 : W0.heap.size ≤ g
  b0 : W0.heap.size ≤ B1

theorem tag_ne {w : World} {a b : Nat} {cs cs' : Array Value} {t t' : TypeId} {f f' : Nat × Nat} (h1 : w.heap[a]? = some (.cells cs t f)) (h2 : w.heap[b]? = some (.cells cs' t' f')) (h : t ≠ t') : a ≠ b := by
  rintro rfl
  rw [h1] at h2
  cases h2
  exact h rfl
theorem KOwn.move {w w' : World} {B1 nk : Nat} {kv : Value} (h : KOwn w B1 kv nk) {S : Nat → Prop} (hb : But S w w') (hS : ∀ k, S k → k < B1 ∨ w.heap.size ≤ k) : KOwn w' B1 kv nk := by
  obtain ⟨xs, h⟩ := h
  refine ⟨xs, own_move h fun g hg => hb.block g (own_lt h hg) fun hs => ?_⟩
  have h1 := (own_blk h hg).1
  have h2 := own_lt h hg
  rcases hS g hs with h3 | h3 <;> omega
theorem KOwn.set {w : World} {B1 nk : Nat} {kv : Value} (h : KOwn w B1 kv nk) (p : Addr) (v : Value) (hp : p.block < B1) : KOwn (w.setCell p v) B1 kv nk := by
  obtain ⟨xs, h⟩ := h
  refine ⟨xs, own_move h fun g hg => Below.heap_setCell _ _ _ _ ?_⟩
  have h1 := (own_blk h hg).1
  omega
theorem ByteRow.convAt {W : World} {g o n c : Nat} {B : List UInt8} (h : ByteRow W g B) (hon : o + n ≤ B.length) : (convert 50 9 (.slice (some ⟨g, o, none⟩) n c)).run Tryd.prog W = .ok (.string ⟨((B.drop o).take n).toArray⟩) W := by
  have hl : ((B.drop o).take n).length = n := by simp; omega
  have hc0 : ∀ i (hi : i < ((B.drop o).take n).length), W.cell? ⟨g, o + i, none⟩ = some (.int .u8 (((B.drop o).take n)[i]).toNat) := fun i hi => h.cell (by rw [List.getElem_take, List.getElem_drop]; exact List.getElem?_eq_getElem _)
  generalize (B.drop o).take n = l at hl hc0
  have e : strOfNums (l.map fun b => (b.toNat : Int)) = ⟨l.toArray⟩ := by
    apply ByteArray.ext
    simp [strOfNums, List.map_map, Function.comp_def]
  rw [← e]
  refine run_convert_bytes_arg W 50 5 Tryd.underlying50 Tryd.underlying5 g o n c (l.map fun b => (b.toNat : Int)) (by rw [List.length_map, hl]) (fun i hi => ?_) 9 Tryd.underlying9
  have hi2 : i < l.length := by rw [hl]; simpa [hl] using hi
  have hc := hc0 i hi2
  simpa [hi2] using hc
theorem Tabs.below {w w' : World} (h : Tabs w) (hb : Below w.heap.size w w') : Tabs w' := Utf8Tabs_below h hb

set_option maxHeartbeats 8000000 in
set_option maxRecDepth 100000 in
theorem ctl_any (W0 : World) (B1 C R P L np cp a g o m c pos op nk cl : Nat) (kv : Value) (B : List UInt8) (F : List Pc) (r : RdV) (w : World) (hX : CtlPre W0 B1 C R P L np cp a g o m c pos nk cl kv B F r w)
    (hop : op = 8 ∨ op = 9 ∨ op = 10) (hrem : r.rem ≤ 125) (hnk : nk ≤ 1000000) (hm : m ≤ 1000000) (hmc : m ≤ c) (hpos : pos ≤ m) (hm0 : 0 < m) (hnp : np ≤ 1000000) (hcp : np ≤ cp) {te : TypeId} {ve : Value} (hE0 : W0.cell? ⟨1, 0, none⟩ = some (.iface te ve)) :
    Calls Tryd.prog 28 #[.pointer (some ⟨C, 0, none⟩), .pointer (some ⟨R, 0, none⟩), .int .i64 op, .iface 67 (.pointer (some ⟨P, 0, none⟩)), .slice (some ⟨g, o, none⟩) m c, .int .u64 pos] w
      (CtlPost B1 C R P L np cp g o m pos op nk cl kv B F r w) := by
  have HX := Lib.hid hX
  have c0 := hX.rd.c0
  have c4 := hX.rd.c4
  have hCR : C ≠ R := by obtain ⟨cs, h1, _⟩ := hX.ca; exact tag_ne h1 hX.rd (by decide)
  have h1s : 1 < W0.heap.size := World.block_lt_of_cell? W0 _ hE0
  have hE : w.cell? ⟨1, 0, none⟩ = some (.iface te ve) := (hX.w0.cell (p := ⟨1, 0, none⟩) h1s).trans hE0
  have h1P : P ≠ 1 := by have := hX.p0; omega
  have h1L : L ≠ 1 := by have := hX.l0; omega
  clear hX
  by_cases hr0 : r.rem = 0
  · have hz : ¬ ((0 : Int) < (r.rem : Int)) := by omega
    have HRR := Lib.hid (show RdAt w R { r with rem := 0, kp := r.rem % 4 } from by
      have h1 := HX.out.kp
      have h2 := HX.out.rd
      obtain ⟨rem, fs, ff, kp, key, cb, co, cz⟩ := r
      simp only at hr0 h1
      subst hr0
      subst h1
      exact h2)
    have HRE := Lib.hid (show rest B (o + pos) F = (rest B (o + pos) F).drop r.rem from by rw [hr0]; rfl)
    rcases hop with rfl | rfl | rfl
    · have cd := HX.out.ca.d
      have cf := HX.out.ca.fz 4129
      go_enter Tryd.func28, Tryd.ntmps28
      go_wp2_with fail
      go_quiet (fail)
      go_wp2_with fail
      go_ret2
      have hb0 : But (fun k => k = P ∨ k = L ∨ k = R ∨ k = C ∨ k = g ∨ kv.ownBlock = some k) w ((w.setCell ⟨C, 4129, none⟩ (.int .i64 1005)).drewN nq) := (((But.refl _ w).setCell _ _ (Or.inr (Or.inr (Or.inr (Or.inl rfl)))))).drewN nq
      have hbg : ByteRow ((w.setCell ⟨C, 4129, none⟩ (.int .i64 1005)).drewN nq) g B := HX.out.b.at (Below.heap_setCell _ _ _ _ (by obtain ⟨cs, h1, _⟩ := HX.out.ca; exact HX.out.b.ne h1 (by decide)))
      refine ⟨pos, _, B, rfl, rfl, hbg, fun _ _ => rfl, hb0, Or.inl ⟨te, ve, 1005, kv, rfl, HX.out.ca.setC 1005, Or.inr ⟨rfl, by omega, Or.inr ?_⟩⟩⟩
      rw [hr0]
      rfl
    · have hcv : (convert 50 9 (.slice none 0 0)).run Tryd.prog w = .ok (.string ⟨#[]⟩) w := by kernel_rfl
      go_enter Tryd.func28, Tryd.ntmps28
      go_wp2_with fail
      refine (keep_any C B1 nk cl kv _ w HX.out.ca HX.out.ko hnk HX.out.bs HX.out.cb).mono ?_
      rintro e w2 ⟨rfl, kv', hc2, hk2, hb2⟩
      have H2 := Lib.hid (And.intro hc2 (And.intro hk2 hb2))
      clear hc2 hk2 hb2
      go_wp2_with fail
      go_ret2
      have hS : ∀ k, k < B1 → k ≠ C → ¬ (k = C ∨ kv.ownBlock = some k) := fun k hk hne h => by
        obtain ⟨xs, ho⟩ := HX.out.ko
        rcases h with h | h
        · exact hne h
        · have := (own_blk ho h).1; omega
      have hgC : g ≠ C := by obtain ⟨cs, h1, _⟩ := HX.out.ca; exact HX.out.b.ne h1 (by decide)
      refine ⟨pos, _, B, rfl, rfl, HX.out.b.but H2.out.2.2 (hS g HX.out.gb hgC), fun _ _ => rfl, H2.out.2.2.mono (fun k _ h => h.elim (fun h => Or.inr (Or.inr (Or.inr (Or.inl h)))) (fun h => Or.inr (Or.inr (Or.inr (Or.inr (Or.inr h)))))), Or.inr ⟨rfl, by decide, a, 0, nk + 1, F, kv', Nat.le_refl _, hpos, by omega, HRE.out, ?_, ?_, rfl, H2.out.1, H2.out.2.1, Nat.le_refl _⟩⟩
      · exact HRR.out.at (H2.out.2.2.block R HX.out.rd.lt (hS R HX.out.rb (Ne.symm hCR)))
      · refine HX.out.cn.but H2.out.2.2 (hS P HX.out.pb ?_) (hS L HX.out.lb ?_) (fun x hx => hS x.g (HX.out.fb x hx).1 ?_)
        · obtain ⟨cs, h1, _⟩ := HX.out.ca; exact Ne.symm (tag_ne h1 HX.out.cn.p (by decide))
        · obtain ⟨cs, h1, _⟩ := HX.out.ca; obtain ⟨cs', h1', _⟩ := HX.out.cn.l; exact Ne.symm (tag_ne h1 h1' (by decide))
        · obtain ⟨cs, h1, _⟩ := HX.out.ca; exact (HX.out.cn.f x hx).1.ne h1 (by decide)
    · go_enter Tryd.func28, Tryd.ntmps28
      go_wp2_with fail
      go_ret2
      exact ⟨pos, _, B, rfl, rfl, HX.out.b, fun _ _ => rfl, But.refl _ _, Or.inr ⟨rfl, by decide, a, 0, nk, F, kv, Nat.le_refl _, hpos, by omega, HRE.out, HRR.out, HX.out.cn, rfl, HX.out.ca, HX.out.ko, by omega⟩⟩
  · have hz : (0 : Int) < (r.rem : Int) := by omega
    go_enter Tryd.func28, Tryd.ntmps28
    go_wp2_with fail
    refine (get_any P L np cp a g o m c pos r.rem B F w HX.out.cn HX.out.b HX.out.om hm hmc hpos hm0 (by omega) (by omega) hnp hcp hE h1P h1L).mono ?_
    rintro e w1 (⟨hl, te1, ve1, rfl, hb1⟩ | ⟨hl, g', o', c', pos', a', i, F', B', rfl, hp1, hp2, hrs, hB', hol, htk, hnc', hC1, hF1, hb1, hgg⟩)
    · have H1 := Lib.hid (And.intro hl hb1)
      clear hl hb1
      go_wp2_with fail
      go_ret2
      have hgP : g ≠ P := HX.out.b.ne HX.out.cn.p (by decide)
      have hgL : g ≠ L := by obtain ⟨cs, h1, _⟩ := HX.out.cn.l; exact HX.out.b.ne h1 (by decide)
      have hCP : C ≠ P := by obtain ⟨cs, h1, _⟩ := HX.out.ca; exact tag_ne h1 HX.out.cn.p (by decide)
      have hCL : C ≠ L := by obtain ⟨cs, h1, _⟩ := HX.out.ca; obtain ⟨cs', h1', _⟩ := HX.out.cn.l; exact tag_ne h1 h1' (by decide)
      exact ⟨0, _, B, rfl, rfl, HX.out.b.but H1.out.2 (fun h => h.elim hgP hgL), fun _ _ => rfl, H1.out.2.mono (fun k _ h => h.elim Or.inl (fun h => Or.inr (Or.inl h))), Or.inl ⟨te1, ve1, cl, kv, rfl, HX.out.ca.at (H1.out.2.block C HX.out.ca.lt (fun h => h.elim hCP hCL)), Or.inl ⟨H1.out.1, rfl⟩⟩⟩
    · have hgP : g ≠ P := HX.out.b.ne HX.out.cn.p (by decide)
      have hgL : g ≠ L := by obtain ⟨cs, h1, _⟩ := HX.out.cn.l; exact HX.out.b.ne h1 (by decide)
      have hgR : g ≠ R := HX.out.b.ne HX.out.rd (by decide)
      have hgC : g ≠ C := by obtain ⟨cs, h1, _⟩ := HX.out.ca; exact HX.out.b.ne h1 (by decide)
      have hCP : C ≠ P := by obtain ⟨cs, h1, _⟩ := HX.out.ca; exact tag_ne h1 HX.out.cn.p (by decide)
      have hCL : C ≠ L := by obtain ⟨cs, h1, _⟩ := HX.out.ca; obtain ⟨cs', h1', _⟩ := HX.out.cn.l; exact tag_ne h1 h1' (by decide)
      have hRP : R ≠ P := tag_ne HX.out.rd HX.out.cn.p (by decide)
      have hRL : R ≠ L := by obtain ⟨cs', h1', _⟩ := HX.out.cn.l; exact tag_ne HX.out.rd h1' (by decide)
      have hR1 : RdAt w1 R r := HX.out.rd.at (hb1.block R HX.out.rd.lt (fun h => h.elim hRP hRL))
      have hC1' : CAt w1 C kv cl := HX.out.ca.at (hb1.block C HX.out.ca.lt (fun h => h.elim hCP hCL))
      have d4 := hR1.c4
      have H1 := Lib.hid (And.intro hl (And.intro hp1 (And.intro hp2 (And.intro hrs (And.intro hB' (And.intro hol (And.intro htk (And.intro hnc' (And.intro hC1 (And.intro hF1 (And.intro hb1 (And.intro hgg (And.intro hR1 hC1')))))))))))))
      clear hl hp1 hp2 hrs hB' hol htk hnc' hC1 hF1 hb1 hgg hR1 hC1'
      obtain ⟨hl, hp1, hp2, hrs, hB', hol, htk, hnc', hC1, hF1, hb1, hgg, hR1, hC1'⟩ := id H1
      go_wp2_with fail
      refine (unmask_any R g' o' r.rem c' B' r w1 hR1 hB' (by have := HX.out.kp; omega) hol (by omega) hnc').mono ?_
      rintro e w2 ⟨rfl, hR2, hB2, hb2⟩
      have hS1 : ∀ k, k < B1 → k ≠ P → k ≠ L → ¬ (k = P ∨ k = L) := fun k _ h2 h3 h => h.elim h2 h3
      have hg'F : ∀ x ∈ F', x.g ≠ g' := by
        intro x hx
        have h1 : x.g ∈ (F.map Pc.g).drop i := by rw [← hF1]; exact List.mem_map_of_mem hx
        obtain ⟨y, hy, hyx⟩ := List.mem_map.1 (List.mem_of_mem_drop h1)
        have h2 := HX.out.fb y hy
        have h3 := HX.out.bs
        rcases hgg with ⟨h, _⟩ | h
        · rw [h, ← hyx]; exact h2.2
        · omega
      have hF1b : ∀ x ∈ F', x.g < B1 := by
        intro x hx
        have h1 : x.g ∈ (F.map Pc.g).drop i := by rw [← hF1]; exact List.mem_map_of_mem hx
        obtain ⟨y, hy, hyx⟩ := List.mem_map.1 (List.mem_of_mem_drop h1)
        have h2 := HX.out.fb y hy
        omega
      have hbsw := HX.out.bs
      have hg'P : g' ≠ P := hB'.ne hC1.p (by decide)
      have hg'L : g' ≠ L := by obtain ⟨cs, h1, _⟩ := hC1.l; exact hB'.ne h1 (by decide)
      have hg'C : g' ≠ C := by obtain ⟨cs, h1, _⟩ := hC1'; exact hB'.ne h1 (by decide)
      have hg'R : g' ≠ R := hB'.ne hR1 (by decide)
      have hKb : ∀ x, kv.ownBlock = some x → B1 ≤ x ∧ x < w.heap.size ∧ x ≠ g' := by
        intro x hx
        obtain ⟨xs, ho⟩ := HX.out.ko
        obtain ⟨h1, cur, h2⟩ := own_blk ho hx
        have h3 := own_lt ho hx
        have h4 := HX.out.gb
        refine ⟨h1, h3, ?_⟩
        rintro rfl
        rcases hgg with ⟨h, _⟩ | h <;> omega
      have hw3 : But (fun k => k = P ∨ k = L ∨ k = R ∨ k = g') w (w2.setCell ⟨R, 0, none⟩ (.int .u64 0)) :=
        (((hb1.mono (fun k _ h => h.elim Or.inl (fun h => Or.inr (Or.inl h))) : But (fun k => k = P ∨ k = L ∨ k = R ∨ k = g') w w1).trans (hb2.mono (fun k _ h => h.elim (fun h => Or.inr (Or.inr (Or.inr h))) (fun h => Or.inr (Or.inr (Or.inl h)))))).setCell _ _ (Or.inr (Or.inr (Or.inl rfl))))
      have H3 : Hid (∃ B2 : List UInt8, B2.length = B.length ∧ (∀ j, j < o + pos → B2[j]? = B[j]?) ∧ rest B2 (o + pos') F' = (rest B (o + pos) F).drop r.rem ∧ ByteRow (w2.setCell ⟨R, 0, none⟩ (.int .u64 0)) g B2 ∧
          RdAt (w2.setCell ⟨R, 0, none⟩ (.int .u64 0)) R { r with rem := 0, kp := r.rem % 4 } ∧ Cn (w2.setCell ⟨R, 0, none⟩ (.int .u64 0)) P L np cp a' F' ∧ CAt (w2.setCell ⟨R, 0, none⟩ (.int .u64 0)) C kv cl ∧
          KOwn (w2.setCell ⟨R, 0, none⟩ (.int .u64 0)) B1 kv nk ∧ ByteRow (w2.setCell ⟨R, 0, none⟩ (.int .u64 0)) g' (mixU r.key 0 B' o' r.rem) ∧ But (fun k => k = P ∨ k = L ∨ k = R ∨ k = C ∨ k = g ∨ kv.ownBlock = some k) w (w2.setCell ⟨R, 0, none⟩ (.int .u64 0)) ∧
          Below W0.heap.size W0 (w2.setCell ⟨R, 0, none⟩ (.int .u64 0)) ∧ w.heap.size ≤ (w2.setCell ⟨R, 0, none⟩ (.int .u64 0)).heap.size) := by
        have hkp := HX.out.kp
        have hg3 : ByteRow (w2.setCell ⟨R, 0, none⟩ (.int .u64 0)) g' (mixU r.key 0 B' o' r.rem) := by rw [← hkp]; exact hB2.at (Below.heap_setCell _ _ _ _ hg'R)
        have hR3 := hR2.set0 0
        have hR3' : RdAt (w2.setCell ⟨R, 0, none⟩ (.int .u64 0)) R { r with rem := 0, kp := r.rem % 4 } := by
          have : ({ r with rem := 0, kp := r.rem % 4 } : RdV) = { { r with kp := (r.kp + r.rem) % 4 } with rem := 0 } := by rw [hkp, Nat.zero_add]
          rw [this]; exact hR3
        have hgb := HX.out.gb
        have hCn3 : Cn (w2.setCell ⟨R, 0, none⟩ (.int .u64 0)) P L np cp a' F' := by
          have hb3 : But (fun k => k = g' ∨ k = R) w1 (w2.setCell ⟨R, 0, none⟩ (.int .u64 0)) := hb2.setCell _ _ (Or.inr rfl)
          refine hC1.but hb3 (fun h => h.elim (Ne.symm hg'P) (Ne.symm hRP)) (fun h => h.elim (Ne.symm hg'L) (Ne.symm hRL)) (fun x hx h => h.elim (hg'F x hx) ?_)
          exact (hC1.f x hx).1.ne hR1 (by decide)
        have hCA3 : CAt (w2.setCell ⟨R, 0, none⟩ (.int .u64 0)) C kv cl := HX.out.ca.at (hw3.block C HX.out.ca.lt (fun h => by rcases h with h | h | h | h; exact hCP h; exact hCL h; exact hCR h; exact hg'C h.symm))
        have hKO3 : KOwn (w2.setCell ⟨R, 0, none⟩ (.int .u64 0)) B1 kv nk := by
          obtain ⟨xs, ho⟩ := HX.out.ko
          refine ⟨xs, own_move ho fun x hx => hw3.block x (own_lt ho hx) (fun h => ?_)⟩
          have h1 := hKb x hx
          have h2 := HX.out.pb
          have h3 := HX.out.lb
          have h4 := HX.out.rb
          rcases h with h | h | h | h
          · omega
          · omega
          · omega
          · exact h1.2.2 h
        have hBut : But (fun k => k = P ∨ k = L ∨ k = R ∨ k = C ∨ k = g ∨ kv.ownBlock = some k) w (w2.setCell ⟨R, 0, none⟩ (.int .u64 0)) := by
          refine hw3.mono (fun k hk h => ?_)
          rcases h with h | h | h | h
          · exact Or.inl h
          · exact Or.inr (Or.inl h)
          · exact Or.inr (Or.inr (Or.inl h))
          · rcases hgg with ⟨h1, _⟩ | h1
            · exact Or.inr (Or.inr (Or.inr (Or.inr (Or.inl (h.trans h1)))))
            · omega
        have hBel : Below W0.heap.size W0 (w2.setCell ⟨R, 0, none⟩ (.int .u64 0)) := by
          refine But.below HX.out.w0 hBut (fun k h => ?_) HX.out.w0.size
          have := HX.out.p0; have := HX.out.l0; have := HX.out.r0; have := HX.out.q0; have := HX.out.g0; have := HX.out.b0
          rcases h with h | h | h | h | h | h
          · omega
          · omega
          · omega
          · omega
          · omega
          · have := (hKb k h).1; omega
        rcases hgg with ⟨e1, e2, e3, e4⟩ | hfr
        · subst e1 e2 e3 e4
          refine ⟨mixU r.key 0 B' (o + pos) r.rem, mixU_length _ _ _ _ _, fun j hj => mixU_far _ _ _ _ _ _ (Or.inl hj), ?_, hg3, hR3', hCn3, hCA3, hKO3, hg3, hBut, hBel, hw3.size⟩
          rw [← hrs]
          unfold rest
          congr 1
          apply List.ext_getElem?
          intro j
          rw [List.getElem?_drop, List.getElem?_drop]
          exact mixU_far _ _ _ _ _ _ (Or.inr (by omega))
        · refine ⟨B, rfl, fun _ _ => rfl, hrs, HX.out.b.at (hw3.block g HX.out.b.lt (fun h => by rcases h with h | h | h | h; exact hgP h; exact hgL h; exact hgR h; omega)), hR3', hCn3, hCA3, hKO3, hg3, hBut, hBel, hw3.size⟩
      have HPY := Lib.hid (show ((mixU r.key 0 B' o' r.rem).drop o').take r.rem = Fr.unm r.key 0 ((rest B (o + pos) F).take r.rem) from by rw [mixU_unm, htk])
      have HOL := Lib.hid (show o' + r.rem ≤ (mixU r.key 0 B' o' r.rem).length from by rw [mixU_length]; exact hol)
      have HPP := Lib.hid (And.intro hp1 (And.intro hp2 (And.intro hl (And.intro hF1 hnc'))))
      have e0 := hR2.c0
      have f0 := hR2.fz 0
      clear hl hp1 hp2 hrs hB' hol htk hnc' hC1 hF1 hb1 hgg hR1 hC1' hR2 hB2 hb2 hS1 hg'F hF1b hKb hw3 H1
      rcases hop with rfl | rfl | rfl
      · have hSW : ∀ x : World, Below (w2.setCell ⟨R, 0, none⟩ (.int .u64 0)).heap.size (w2.setCell ⟨R, 0, none⟩ (.int .u64 0)) x → Hid (∃ B2 : List UInt8, B2.length = B.length ∧ (∀ j, j < o + pos → B2[j]? = B[j]?) ∧ ByteRow x g B2 ∧ CAt x C kv cl ∧
            But (fun k => k = P ∨ k = L ∨ k = R ∨ k = C ∨ k = g ∨ kv.ownBlock = some k) w x ∧ Tabs x ∧ x.cell? ⟨1, 0, none⟩ = some (.iface te ve) ∧ ByteRow x g' (mixU r.key 0 B' o' r.rem)) := by
          intro x hx
          obtain ⟨B2, h1, h2, h3, h4, h5, h6, h7, h8, h9, h10, h11, h12⟩ := H3.out
          have hb0 : Below W0.heap.size W0 x := h11.trans (hx.mono h11.size)
          exact Lib.hid ⟨B2, h1, h2, h4.at (hx.block _ h4.lt), h7.at (hx.block _ h7.lt), h10.trans (But.of hx), Utf8Tabs_below HX.out.t hb0, (hb0.cell (p := ⟨1, 0, none⟩) h1s).trans hE0, h9.at (hx.block _ h9.lt)⟩
        by_cases hr1 : r.rem = 1
        · have hlp : (r.rem : Int) = 1 := by omega
          go_wp2_with fail
          refine (perr_any _ _ _).mono ?_
          rintro e w4 ⟨te4, ve4, rfl, hb4⟩
          have H4 := hSW w4 hb4
          clear hb4
          go_wp2_with fail
          go_ret2
          obtain ⟨B2, h1, h2, h3, h4, h5, h6, h7, h8⟩ := H4.out
          refine ⟨pos', _, B2, rfl, h1, h3, h2, h5, Or.inl ⟨te4, ve4, cl, kv, rfl, h4, Or.inr ⟨rfl, HPP.out.2.2.1, Or.inl ⟨?_, rfl⟩⟩⟩⟩
          have hl : (Fr.unm r.key 0 ((rest B (o + pos) F).take r.rem)).length = 1 := by rw [Fr.unm_length, List.length_take]; have := HPP.out.2.2.1; omega
          unfold Fr.closing
          rw [if_neg (by omega), if_pos hl]
        · have hlp : ¬ ((r.rem : Int) = 1) := by omega
          have hlp2 : (2 : Int) ≤ (r.rem : Int) := by omega
          obtain ⟨pp, hpp⟩ : ∃ pp, Fr.unm r.key 0 ((rest B (o + pos) F).take r.rem) = pp := ⟨_, rfl⟩
          have hpl : pp.length = r.rem := by rw [← hpp, Fr.unm_length, List.length_take]; have := HPP.out.2.2.1; omega
          obtain ⟨b0, b1, p2, hp3⟩ : ∃ b0 b1 p2, pp = b0 :: b1 :: p2 := by
            match pp, hpl with
            | [], h => simp at h; omega
            | [_], h => simp at h; omega
            | b0 :: b1 :: p2, _ => exact ⟨b0, b1, p2, rfl⟩
          have hg0 : (mixU r.key 0 B' o' r.rem)[o']? = some b0 := by
            have h := congrArg (fun l => l[0]?) (HPY.out.trans (hpp.trans hp3))
            simp only [List.getElem?_take, List.getElem?_drop] at h
            rw [if_pos (by omega)] at h
            simpa using h
          have hg1 : (mixU r.key 0 B' o' r.rem)[o' + 1]? = some b1 := by
            have h := congrArg (fun l => l[1]?) (HPY.out.trans (hpp.trans hp3))
            simp only [List.getElem?_take, List.getElem?_drop] at h
            rw [if_pos (by omega)] at h
            simpa using h
          have hbe : Lib.beNat [b0, b1] < 65536 := by
            have := beNat_lt [b0, b1] 0
            simpa [Lib.beNat] using this
          have hst : Fr.be (pp.take 2) = Lib.beNat [b0, b1] := by rw [hp3]; rfl
          have HC25 : Hid (∀ (w' : World), w'.heap = (w2.setCell ⟨R, 0, none⟩ (.int .u64 0)).heap → Calls Tryd.prog 25 #[.agg #[], .slice (some ⟨g', o', none⟩) 2 c'] w' fun e w'' => e = .returned (.int .u16 (Lib.beNat [b0, b1])) ∧ Below w'.heap.size w' w'') := by
            refine Lib.hid fun w' hw => ?_
            obtain ⟨B2, h1, h2, h3, h4, h5, h6, h7, h8, h9, h10, h11, h12⟩ := H3.out
            have hr9 : ByteRow w' g' (mixU r.key 0 B' o' r.rem) := h9.at (by rw [hw])
            exact Tryd.binary_BE_Uint16 g' o' 2 c' b0 b1 w' (Nat.le_refl _) (hr9.cell hg0) (hr9.cell hg1)
          have HST := Lib.hid (And.intro hst (And.intro hpp (And.intro hpl hp3)))
          have hc2 : (2 : Int) ≤ (c' : Int) := by have := HPP.out.2.2.2.2; omega
          have HBE := Lib.hid hbe
          obtain ⟨st, hst2⟩ : ∃ st, Lib.beNat [b0, b1] = st := ⟨_, rfl⟩
          rw [hst2] at HC25 HBE HST
          have hwst : IntKind.i64.wrap (st : Int) = (st : Int) := IntWalk.i64_in _ (by have := HBE.out; omega)
          clear hst hpp hpl hp3 hg0 hg1 hbe hst2
          go_wp2_with fail
          go_region_with (go_at_call 25; (with_reducible refine (HC25.out _ ?hw).mono ?_); (case hw => rfl); rintro e w4 ⟨rfl, hb4'⟩; (have HB4' := Lib.hid hb4'); clear hb4')
          have HB4 := Lib.hid (show Below (w2.setCell ⟨R, 0, none⟩ (.int .u64 0)).heap.size (w2.setCell ⟨R, 0, none⟩ (.int .u64 0)) w4 from ⟨HB4'.out.os, HB4'.out.tape, HB4'.out.output, HB4'.out.size, HB4'.out.block⟩)
          clear HB4' HC25
          have H4 := hSW w4 HB4.out
          go_wp2_with fail
          refine (valid_any st w4).mono ?_
          rintro e w5 ⟨rfl, hw5⟩
          obtain rfl := hw5.symm
          cases hok : Fr.okStatus st with
          | false =>
            have HOK := Lib.hid hok
            clear hok
            go_wp2_with fail
            refine (perr_any _ _ _).mono ?_
            rintro e w6 ⟨te4, ve4, rfl, hb6⟩
            have H6 := hSW w6 (HB4.out.trans (hb6.mono HB4.out.size))
            clear hb6
            go_wp2_with fail
            go_ret2
            obtain ⟨B2, h1, h2, h3, h4, h5, h6, h7, h8⟩ := H6.out
            refine ⟨pos', _, B2, rfl, h1, h3, h2, h5, Or.inl ⟨te4, ve4, cl, kv, rfl, h4, Or.inr ⟨rfl, HPP.out.2.2.1, Or.inl ⟨?_, rfl⟩⟩⟩⟩
            rw [HST.out.2.1]
            unfold Fr.closing
            rw [if_neg (by rw [HST.out.2.2.1]; omega), if_neg (by rw [HST.out.2.2.1]; omega), HST.out.1, HOK.out, if_neg (by decide)]
          | true =>
            have HOK := Lib.hid hok
            have h1005 : ¬ ((st : Int) = 1005) := by
              intro h
              have : st = 1005 := by omega
              rw [this] at hok
              revert hok
              decide
            clear hok
            by_cases hr2 : r.rem = 2
            · have hlp3 : ¬ ((2 : Int) < (r.rem : Int)) := by omega
              go_wp2_with fail
              refine (msg_any st _ w4 (by decide) HBE.out).mono ?_
              rintro e w6 ⟨⟨v6, rfl, A6, n6, c6, rfl⟩, hb6⟩
              have H6 := hSW w6 (HB4.out.trans (hb6.mono HB4.out.size))
              clear hb6
              obtain ⟨B2, h1, h2, h3, h4, h5, h6, h7, h8⟩ := id H6
              have cd := h4.d
              have cf := h4.fz 4129
              have HH6 := Lib.hid (And.intro h1 (And.intro h2 (And.intro h3 (And.intro h4 h5))))
              clear h1 h2 h3 h4 h5 h6 h8
              go_wp2_with fail
              go_quiet (fail)
              go_wp2_with fail
              go_ret2
              refine ⟨pos', _, B2, rfl, HH6.out.1, HH6.out.2.2.1.at (Below.heap_setCell _ _ _ _ hgC), HH6.out.2.1, (HH6.out.2.2.2.2.setCell _ _ (Or.inr (Or.inr (Or.inr (Or.inl rfl))))).drewN nq, Or.inl ⟨te, ve, st, kv, rfl, HH6.out.2.2.2.1.setC st, Or.inr ⟨rfl, HPP.out.2.2.1, Or.inr ?_⟩⟩⟩
              rw [HST.out.2.1]
              unfold Fr.closing
              rw [if_neg (by rw [HST.out.2.2.1]; omega), if_neg (by rw [HST.out.2.2.1]; omega), HST.out.1, HOK.out, if_pos rfl, if_neg (by rw [HST.out.2.2.1]; omega)]
            · have hlp3 : (2 : Int) < (r.rem : Int) := by omega
              have hc3 : ¬ (c' = 2) := by have := HPP.out.2.2.2.2; omega
              have hr3 : r.rem - 2 ≤ 123 := by omega
              obtain ⟨B2, h1, h2, h3, h4, h5, h6, h7, h8⟩ := id H4
              have hcv : (convert 50 9 (.slice (some ⟨g', o' + 2, none⟩) (r.rem - 2) (c' - 2))).run Tryd.prog w4 = .ok (.string ⟨(((mixU r.key 0 B' o' r.rem).drop (o' + 2)).take (r.rem - 2)).toArray⟩) w4 := h8.convAt (by have := HOL.out; omega)
              have HBD := Lib.hid (show ((mixU r.key 0 B' o' r.rem).drop (o' + 2)).take (r.rem - 2) = pp.drop 2 from by
                rw [← HST.out.2.1, ← HPY.out, List.drop_take, List.drop_drop])
              have hbl : (pp.drop 2).length = r.rem - 2 := by rw [List.length_drop, HST.out.2.2.1]
              rw [HBD.out] at hcv
              have HT4 := Lib.hid h6
              have HBL := Lib.hid hbl
              clear h1 h2 h3 h4 h5 h6 h7 h8 hbl
              obtain ⟨body, hbody⟩ : ∃ body, pp.drop 2 = body := ⟨_, rfl⟩
              rw [hbody] at hcv HBL HBD
              have HBDY := Lib.hid hbody
              clear hbody
              go_wp2_with fail
              have hsz : (⟨body.toArray⟩ : ByteArray).size = body.length := by show (⟨body.toArray⟩ : ByteArray).data.size = _; simp
              have cV : Calls Tryd.prog 32 #[.string ⟨body.toArray⟩] w4 fun e w' => e = .returned (.bool (Lib.validD (⟨body.toArray⟩ : ByteArray).data.toList)) ∧ Below w4.heap.size w4 w' := Any.utf8_ValidString Tryd.laysValid ⟨body.toArray⟩ w4 (by rw [hsz, HBL.out]; omega) HT4.out
              rw [show (⟨body.toArray⟩ : ByteArray).data.toList = body from by simp] at cV
              refine cV.mono ?_
              rintro e w5 ⟨rfl, hb5⟩
              have HB5 := Lib.hid (HB4.out.trans (hb5.mono HB4.out.size))
              clear hb5 cV
              cases hvd : Lib.validD body with
              | true =>
                have HVD := Lib.hid hvd
                clear hvd
                go_wp2_with fail
                refine (msg_any st _ w5 (by rw [hsz, HBL.out]; exact hr3) HBE.out).mono ?_
                rintro e w6 ⟨⟨v6, rfl, A6, n6, c6, rfl⟩, hb6⟩
                have H6 := hSW w6 (HB5.out.trans (hb6.mono HB5.out.size))
                clear hb6
                obtain ⟨B2, h1, h2, h3, h4, h5, h6, h7, h8⟩ := id H6
                have cd := h4.d
                have cf := h4.fz 4129
                have HH6 := Lib.hid (And.intro h1 (And.intro h2 (And.intro h3 (And.intro h4 h5))))
                clear h1 h2 h3 h4 h5 h6 h8
                go_wp2_with fail
                go_quiet (fail)
                go_wp2_with fail
                go_ret2
                refine ⟨pos', _, B2, rfl, HH6.out.1, HH6.out.2.2.1.at (Below.heap_setCell _ _ _ _ hgC), HH6.out.2.1, (HH6.out.2.2.2.2.setCell _ _ (Or.inr (Or.inr (Or.inr (Or.inl rfl))))).drewN nq, Or.inl ⟨te, ve, st, kv, rfl, HH6.out.2.2.2.1.setC st, Or.inr ⟨rfl, HPP.out.2.2.1, Or.inr ?_⟩⟩⟩
                rw [HST.out.2.1]
                unfold Fr.closing
                rw [if_neg (by rw [HST.out.2.2.1]; omega), if_neg (by rw [HST.out.2.2.1]; omega), HST.out.1, HOK.out, if_pos rfl, if_neg (by rw [HBDY.out, HVD.out]; simp)]
              | false =>
                have HVD := Lib.hid hvd
                clear hvd
                go_wp2_with fail
                refine (msg_any 1007 _ w5 (by decide) (by decide)).mono ?_
                rintro e w6 ⟨⟨v6, rfl, A6, n6, c6, rfl⟩, hb6⟩
                have H6 := hSW w6 (HB5.out.trans (hb6.mono HB5.out.size))
                clear hb6
                obtain ⟨B2, h1, h2, h3, h4, h5, h6, h7, h8⟩ := id H6
                have cd := h4.d
                have cf := h4.fz 4129
                have HH6 := Lib.hid (And.intro h1 (And.intro h2 (And.intro h3 (And.intro h4 h5))))
                clear h1 h2 h3 h4 h5 h6 h8
                go_wp2_with fail
                go_quiet (fail)
                go_wp2_with fail
                go_ret2
                refine ⟨pos', _, B2, rfl, HH6.out.1, HH6.out.2.2.1.at (Below.heap_setCell _ _ _ _ hgC), HH6.out.2.1, (HH6.out.2.2.2.2.setCell _ _ (Or.inr (Or.inr (Or.inr (Or.inl rfl))))).drewN nq, Or.inl ⟨te, ve, 1007, kv, rfl, HH6.out.2.2.2.1.setC 1007, Or.inr ⟨rfl, HPP.out.2.2.1, Or.inr ?_⟩⟩⟩
                rw [HST.out.2.1]
                unfold Fr.closing
                rw [if_neg (by rw [HST.out.2.2.1]; omega), if_neg (by rw [HST.out.2.2.1]; omega), HST.out.1, HOK.out, if_pos rfl, if_pos ⟨by rw [HST.out.2.2.1]; omega, by rw [HBDY.out, HVD.out]⟩]
      · have hcv : (convert 50 9 (.slice (some ⟨g', o', none⟩) r.rem c')).run Tryd.prog (w2.setCell ⟨R, 0, none⟩ (.int .u64 0)) = .ok (.string ⟨(((mixU r.key 0 B' o' r.rem).drop o').take r.rem).toArray⟩) (w2.setCell ⟨R, 0, none⟩ (.int .u64 0)) := by
          obtain ⟨B2, h1, h2, h3, h4, h5, h6, h7, h8, h9, h10, h11, h12⟩ := H3.out
          exact h9.convAt HOL.out
        generalize (⟨(((mixU r.key 0 B' o' r.rem).drop o').take r.rem).toArray⟩ : ByteArray) = txt at hcv
        go_wp2_with fail
        obtain ⟨B2, h1, h2, h3, h4, h5, h6, h7, h8, h9, h10, h11, h12⟩ := id H3
        refine (keep_any C B1 nk cl kv txt _ h7 h8 hnk (by omega) HX.out.cb).mono ?_
        rintro e w4 ⟨rfl, kv', hc2, hk2, hb4⟩
        have HH := Lib.hid (And.intro h1 (And.intro h2 (And.intro h3 (And.intro h4 (And.intro h5 (And.intro h6 (And.intro h8 (And.intro h10 (And.intro hc2 (And.intro hk2 hb4))))))))))
        clear h1 h2 h3 h4 h5 h6 h7 h8 h9 h10 h11 hc2 hk2 hb4
        go_wp2_with fail
        go_ret2
        obtain ⟨h1, h2, h3, h4, h5, h6, h8, h10, hc2, hk2, hb4⟩ := HH.out
        have hS : ∀ k, k < B1 → k ≠ C → ¬ (k = C ∨ kv.ownBlock = some k) := fun k hk hne h => by
          obtain ⟨xs, ho⟩ := HX.out.ko
          rcases h with h | h
          · exact hne h
          · have := (own_blk ho h).1; omega
        refine ⟨pos', _, B2, rfl, h1, h4.but hb4 (hS g HX.out.gb hgC), h2, h10.trans (hb4.mono (fun k _ h => h.elim (fun h => Or.inr (Or.inr (Or.inr (Or.inl h)))) (fun h => Or.inr (Or.inr (Or.inr (Or.inr (Or.inr h))))))), Or.inr ⟨rfl, by decide, a', i, nk + 1, F', kv', HPP.out.1, HPP.out.2.1, HPP.out.2.2.1, h3, ?_, ?_, HPP.out.2.2.2.1, hc2, hk2, Nat.le_refl _⟩⟩
        · exact h5.at (hb4.block R h5.lt (hS R HX.out.rb (Ne.symm hCR)))
        · refine h6.but hb4 (hS P HX.out.pb (Ne.symm hCP)) (hS L HX.out.lb (Ne.symm hCL)) (fun x hx => hS x.g ?_ ?_)
          · have h1 : x.g ∈ (F.map Pc.g).drop i := by rw [← HPP.out.2.2.2.1]; exact List.mem_map_of_mem hx
            obtain ⟨y, hy, hyx⟩ := List.mem_map.1 (List.mem_of_mem_drop h1)
            have := (HX.out.fb y hy).1
            omega
          · obtain ⟨_, _, _, _, _, _, _, h7, _⟩ := H3.out
            obtain ⟨cs, hcs, _⟩ := h7
            exact (h6.f x hx).1.ne hcs (by decide)
      · go_wp2_with fail
        go_ret2
        obtain ⟨B2, h1, h2, h3, h4, h5, h6, h7, h8, h9, h10, h11, h12⟩ := H3.out
        exact ⟨pos', _, B2, rfl, h1, h4, h2, h10, Or.inr ⟨rfl, by decide, a', i, nk, F', kv, HPP.out.1, HPP.out.2.1, HPP.out.2.2.1, h3, h5, h6, HPP.out.2.2.2.1, h7, h8, by omega⟩⟩
end Go.Proofs.YtkkedekgniffoaaDoor
