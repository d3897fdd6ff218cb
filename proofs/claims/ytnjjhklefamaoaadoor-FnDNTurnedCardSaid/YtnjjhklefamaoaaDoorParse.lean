/-
  ldap.ParseDN over a text that the reading machine reads to its end: the name that the machine ends with.
-/
import Derived.Test.YtnjjhklefamaoaaDoorStart
import Derived.Deep.AppendLies
import Derived.Outline
namespace Go.Proofs.YtnjjhklefamaoaaDoor
open Go.RowKit
open Dn (Attr Name)

def ParsePost (τ : Dn.St) (w : World) (e : Ending) (w' : World) : Prop :=
  e = .returned (.tuple #[.pointer (some ⟨w.heap.size, 0, none⟩), .nilIface]) ∧ PDn w' (.pointer (some ⟨w.heap.size, 0, none⟩)) (Dn.final τ) ∧ Below w.heap.size w w'

theorem char_at {s : ByteArray} {k : Nat} {c : UInt8} (hk : k < s.size) (h : s.data.toList[k]? = some c) : s[k] = c := by
  have := getD_at s k hk
  rw [← this, List.getD, h]; rfl
theorem char_int {s : ByteArray} {k : Nat} {c : UInt8} (hk : k < s.size) (h : s.data.toList[k]? = some c) : ((s[k].toNat : Nat) : Int) = (c.toNat : Int) := by rw [char_at hk h]
theorem ne_int {c d : UInt8} (h : c ≠ d) : (((c.toNat : Nat) : Int) == ((d.toNat : Nat) : Int)) = false := by
  simp only [beq_eq_false_iff_ne, ne_eq]
  intro e
  exact h (UInt8.toNat_inj.1 (by omega))

/-- a block of another type, behind an append to a row of pointers -/
theorem after_block {wr w1 : World} {o : Obj} {B R : Nat} {e t : TypeId} {u : Value} {n : Nat} {ps : List Value} {cs : Array Value} {fz : Nat × Nat} (hg : (wr.alloc o).grownBy w1 u.ownBlock) (hown : wr.ownsRow B e 1 u n ps) (hR : wr.heap[R]? = some (.cells cs t fz)) (hne : t ≠ e) : w1.heap[R]? = some (.cells cs t fz) := by
  rw [hg.block R (by have := lt_of hR; simp; omega) (fun h => ?_), Below.heap_alloc _ _ _ (lt_of hR)]
  · exact hR
  · obtain ⟨cur, hc⟩ := row_block hown h.symm
    rw [hR] at hc
    simp at hc
    exact hne hc.2.1
theorem after_cell {wr w1 : World} {o : Obj} {B R : Nat} {v x : Value} {n : Nat} {ps : List Value} (hg : (wr.alloc o).grownBy w1 v.ownBlock) (hown : wr.ownsRow B 50 1 v n ps) (hR : wr.heap[R]? = some (.cells #[x] 47 (0, 0))) : w1.cell? ⟨R, 0, none⟩ = some x := by
  have := after_block hg hown hR (by decide)
  simp [World.cell?, this]
theorem after_fz {wr w1 : World} {o : Obj} {B R : Nat} {v x : Value} {n : Nat} {ps : List Value} (hg : (wr.alloc o).grownBy w1 v.ownBlock) (hown : wr.ownsRow B 50 1 v n ps) (hR : wr.heap[R]? = some (.cells #[x] 47 (0, 0))) : w1.frozen? ⟨R, 0, none⟩ = false := by
  have := after_block hg hown hR (by decide)
  simp [World.frozen?, this]
theorem after_cellD {wr w1 : World} {o : Obj} {B R : Nat} {v x : Value} {n : Nat} {ps : List Value} (hg : (wr.alloc o).grownBy w1 v.ownBlock) (hown : wr.ownsRow B 48 1 v n ps) (hR : wr.heap[R]? = some (.cells #[x] 44 (0, 0))) : w1.cell? ⟨R, 0, none⟩ = some x := by
  have := after_block hg hown hR (by decide)
  simp [World.cell?, this]
theorem after_fzD {wr w1 : World} {o : Obj} {B R : Nat} {v x : Value} {n : Nat} {ps : List Value} (hg : (wr.alloc o).grownBy w1 v.ownBlock) (hown : wr.ownsRow B 48 1 v n ps) (hR : wr.heap[R]? = some (.cells #[x] 44 (0, 0))) : w1.frozen? ⟨R, 0, none⟩ = false := by
  have := after_block hg hown hR (by decide)
  simp [World.frozen?, this]

set_option maxHeartbeats 40000000 in
set_option maxRecDepth 100000 in
theorem parse_any (s : ByteArray) (τ : Dn.St) (w : World) (hs : s.size ≤ 900) (hr : Dn.Runs s.data.toList 0 Dn.init s.size τ) (ht : τ.buf = [] ∨ 0 < τ.ty.size) : Calls Tryd.prog 19 #[.string s] w (ParsePost τ w) := by
  have HM0 := Lib.hid (start_mem w)
  have HT := Lib.hid ht
  have HR0 := Lib.hid hr
  have hst : start w = ((((((w.alloc (.cells #[.slice (some ⟨w.heap.size + 1, 0, none⟩) 0 0] 44)).alloc (.cells #[] 48)).alloc (.cells #[.slice (some ⟨w.heap.size + 1 + 1 + 1, 0, none⟩) 0 0] 47)).alloc (.cells #[] 50)).alloc
    (.cells #[.slice none 0 0, .int .i64 0, .int .i8 0] 60)).alloc (.cells #[.string ⟨#[]⟩, .string ⟨#[]⟩] 49)).alloc (.cells #[.int .i64 0] 3) := rfl
  have h1 := mk42
  have h2 := mk45
  obtain ⟨i0, hi, hz0, hz1, hz2⟩ := info_parts info50
  obtain ⟨i8, hi8, hz80, hz81, hz82⟩ := info_parts info48
  have HST := Lib.hid hst
  clear hr ht hst
  go_enter Tryd.func19, Tryd.ntmps19
  go_wp2_with fail
  rw [← HST.out]
  clear HST
  generalize start w = w0 at *
  generalize w.heap.size + 1 + 1 + 1 + 1 + 1 + 1 = Sp at *
  generalize w.heap.size + 1 + 1 + 1 + 1 + 1 = A0 at *
  generalize w.heap.size + 1 + 1 + 1 + 1 = Bf at *
  go_loopg [5, 7, 8, 11] (s.size + 1) (fun gk r a es i wr => ∃ (k A R : Nat) (σ : Dn.St) (v u : Value) (ps ds : List Value), k ≤ s.size ∧ gk = s.size + 1 - k ∧ r = .pointer (some ⟨R, 0, none⟩) ∧ a = .pointer (some ⟨A, 0, none⟩) ∧ es = .bool σ.esc ∧ i = .int .i64 k ∧
    Hid (Mem w wr Bf Sp σ.buf σ.sp A (σ.ty, ⟨#[]⟩) R v ps σ.rdn u ds σ.dn) ∧ Hid (Dn.Runs s.data.toList k σ s.size τ) ∧ Hid (Dn.Fine k σ))
  case atStart => exact ⟨0, A0, _, Dn.init, _, _, [], [], by omega, by omega, rfl, rfl, rfl, rfl, HM0, HR0, Lib.hid Dn.fine_init⟩
  case round =>
    obtain ⟨k, A, R, σ, v, u, ps, ds, hk, hg, rfl, rfl, rfl, rfl, HM, HR, HF⟩ := hrel
    clear HM0 HR0
    by_cases hlt : k < s.size
    · obtain ⟨k2, σ2, hstep, hrest⟩ : ∃ k2 σ2, Dn.Step s.data.toList k σ k2 σ2 ∧ Dn.Runs s.data.toList k2 σ2 s.size τ := by
        have := HR.out
        cases this with
        | nil => omega
        | cons a b => exact ⟨_, _, a, b⟩
      have HREST := Lib.hid hrest
      have HF2 := Lib.hid (HF.out.step hstep)
      have hbl : σ.buf.length ≤ 1000 := by have := HF.out.2.1; omega
      have hrl : σ.rdn.length ≤ 1000 := by have := HF.out.2.2.1; omega
      have hdl : σ.dn.length ≤ 1000 := by have := HF.out.2.2.2.1; omega
      have hspl : σ.sp ≤ σ.buf.length := HF.out.1
      clear hrest HR
      obtain ⟨es, sp, buf, ty, rdn, dn⟩ := σ
      simp only at HM hbl hrl hdl hspl
      have cS := HM.out.cellS
      have fS := HM.out.fzS
      cases hstep
      case back hc he =>
        simp only at he
        subst he
        have hch := char_int hlt hc
        go_wp2_with fail
        go_roundg (s.size - k)
        case measure => omega
        case rel => exact ⟨k + 1, A, R, _, v, u, ps, ds, by omega, by omega, rfl, rfl, rfl, by go_num, Lib.hid (HM.out.spaces 0), HREST, HF2⟩
      case special c hc hs he =>
        try simp only at he
        subst he
        have hcs : c = 32 ∨ c = 34 ∨ c = 35 ∨ c = 43 ∨ c = 44 ∨ c = 59 ∨ c = 60 ∨ c = 61 ∨ c = 62 ∨ c = 92 := by
          unfold Dn.special at hs
          simpa [or_assoc] using hs
        clear hs
        rcases hcs with rfl | rfl | rfl | rfl | rfl | rfl | rfl | rfl | rfl | rfl
        · have hch := char_int hlt hc
          go_wp2_with fail
          refine (write_any (HM.out.spaces 0) 32 _ rfl (by omega)).mono ?_
          rintro e w2 ⟨rfl, M2⟩
          have HM2 := Lib.hid M2
          clear M2
          go_wp2_with fail
          go_roundg (s.size - k)
          case measure => omega
          case rel => exact ⟨k + 1, A, R, _, v, u, ps, ds, by omega, by omega, rfl, rfl, rfl, by go_num, HM2, HREST, HF2⟩
        · have hch := char_int hlt hc
          go_wp2_with fail
          refine (write_any (HM.out.spaces 0) 34 _ rfl (by omega)).mono ?_
          rintro e w2 ⟨rfl, M2⟩
          have HM2 := Lib.hid M2
          clear M2
          go_wp2_with fail
          go_roundg (s.size - k)
          case measure => omega
          case rel => exact ⟨k + 1, A, R, _, v, u, ps, ds, by omega, by omega, rfl, rfl, rfl, by go_num, HM2, HREST, HF2⟩
        · have hch := char_int hlt hc
          go_wp2_with fail
          refine (write_any (HM.out.spaces 0) 35 _ rfl (by omega)).mono ?_
          rintro e w2 ⟨rfl, M2⟩
          have HM2 := Lib.hid M2
          clear M2
          go_wp2_with fail
          go_roundg (s.size - k)
          case measure => omega
          case rel => exact ⟨k + 1, A, R, _, v, u, ps, ds, by omega, by omega, rfl, rfl, rfl, by go_num, HM2, HREST, HF2⟩
        · have hch := char_int hlt hc
          go_wp2_with fail
          refine (write_any (HM.out.spaces 0) 43 _ rfl (by omega)).mono ?_
          rintro e w2 ⟨rfl, M2⟩
          have HM2 := Lib.hid M2
          clear M2
          go_wp2_with fail
          go_roundg (s.size - k)
          case measure => omega
          case rel => exact ⟨k + 1, A, R, _, v, u, ps, ds, by omega, by omega, rfl, rfl, rfl, by go_num, HM2, HREST, HF2⟩
        · have hch := char_int hlt hc
          go_wp2_with fail
          refine (write_any (HM.out.spaces 0) 44 _ rfl (by omega)).mono ?_
          rintro e w2 ⟨rfl, M2⟩
          have HM2 := Lib.hid M2
          clear M2
          go_wp2_with fail
          go_roundg (s.size - k)
          case measure => omega
          case rel => exact ⟨k + 1, A, R, _, v, u, ps, ds, by omega, by omega, rfl, rfl, rfl, by go_num, HM2, HREST, HF2⟩
        · have hch := char_int hlt hc
          go_wp2_with fail
          refine (write_any (HM.out.spaces 0) 59 _ rfl (by omega)).mono ?_
          rintro e w2 ⟨rfl, M2⟩
          have HM2 := Lib.hid M2
          clear M2
          go_wp2_with fail
          go_roundg (s.size - k)
          case measure => omega
          case rel => exact ⟨k + 1, A, R, _, v, u, ps, ds, by omega, by omega, rfl, rfl, rfl, by go_num, HM2, HREST, HF2⟩
        · have hch := char_int hlt hc
          go_wp2_with fail
          refine (write_any (HM.out.spaces 0) 60 _ rfl (by omega)).mono ?_
          rintro e w2 ⟨rfl, M2⟩
          have HM2 := Lib.hid M2
          clear M2
          go_wp2_with fail
          go_roundg (s.size - k)
          case measure => omega
          case rel => exact ⟨k + 1, A, R, _, v, u, ps, ds, by omega, by omega, rfl, rfl, rfl, by go_num, HM2, HREST, HF2⟩
        · have hch := char_int hlt hc
          go_wp2_with fail
          refine (write_any (HM.out.spaces 0) 61 _ rfl (by omega)).mono ?_
          rintro e w2 ⟨rfl, M2⟩
          have HM2 := Lib.hid M2
          clear M2
          go_wp2_with fail
          go_roundg (s.size - k)
          case measure => omega
          case rel => exact ⟨k + 1, A, R, _, v, u, ps, ds, by omega, by omega, rfl, rfl, rfl, by go_num, HM2, HREST, HF2⟩
        · have hch := char_int hlt hc
          go_wp2_with fail
          refine (write_any (HM.out.spaces 0) 62 _ rfl (by omega)).mono ?_
          rintro e w2 ⟨rfl, M2⟩
          have HM2 := Lib.hid M2
          clear M2
          go_wp2_with fail
          go_roundg (s.size - k)
          case measure => omega
          case rel => exact ⟨k + 1, A, R, _, v, u, ps, ds, by omega, by omega, rfl, rfl, rfl, by go_num, HM2, HREST, HF2⟩
        · have hch := char_int hlt hc
          go_wp2_with fail
          refine (write_any (HM.out.spaces 0) 92 _ rfl (by omega)).mono ?_
          rintro e w2 ⟨rfl, M2⟩
          have HM2 := Lib.hid M2
          clear M2
          go_wp2_with fail
          go_roundg (s.size - k)
          case measure => omega
          case rel => exact ⟨k + 1, A, R, _, v, u, ps, ds, by omega, by omega, rfl, rfl, rfl, by go_num, HM2, HREST, HF2⟩
      case lead hc he hb =>
        try simp only at he hb
        subst he hb
        have hch := char_int hlt hc
        go_wp2_with fail
        refine (len_any HM.out).mono ?_
        rintro e w2 ⟨rfl, nd, rfl⟩
        have HM2 := Lib.hid (HM.out.drewN nd)
        go_wp2_with fail
        go_roundg (s.size - k)
        case measure => omega
        case rel => exact ⟨k + 1, A, R, _, v, u, ps, ds, by omega, by omega, rfl, rfl, rfl, by go_num, HM2, HREST, HF2⟩
      case space hc he hb =>
        try simp only at he hb
        subst he
        have hch := char_int hlt hc
        have hb0 : 0 < buf.length := List.length_pos_iff.2 hb
        have hb1 : ((buf.length : Int) == 0) = false := by simp; omega
        have HBN := Lib.hid hb
        clear hb
        go_wp2_with fail
        refine (len_any HM.out).mono ?_
        rintro e w2 ⟨rfl, nd, rfl⟩
        have HM1 := Lib.hid (HM.out.drewN nd)
        have c1 := HM1.out.cellS
        have f1 := HM1.out.fzS
        clear cS fS
        go_wp2_with fail
        refine (write_any (HM1.out.spaces (sp + 1)) 32 _ rfl (by omega)).mono ?_
        rintro e w3 ⟨rfl, M2⟩
        have HM2 := Lib.hid M2
        clear M2
        go_wp2_with fail
        go_roundg (s.size - k)
        case measure => omega
        case rel => exact ⟨k + 1, A, R, _, v, u, ps, ds, by omega, by omega, rfl, rfl, rfl, by go_num, HM2, HREST, HF2⟩
      case plain c hc h1 h2 h3 h4 h5 he =>
        try simp only at he
        subst he
        have hch := char_at hlt hc
        have t1 : (((s[k].toNat : Nat) : Int) == 92) = false := by rw [hch]; exact ne_int h1
        have t2 : (((s[k].toNat : Nat) : Int) == 61) = false := by rw [hch]; exact ne_int h2
        have t3 : (((s[k].toNat : Nat) : Int) == 44) = false := by rw [hch]; exact ne_int h3
        have t4 : (((s[k].toNat : Nat) : Int) == 43) = false := by rw [hch]; exact ne_int h4
        have t5 : (((s[k].toNat : Nat) : Int) == 32) = false := by rw [hch]; exact ne_int h5
        have HCH := Lib.hid hch
        clear hch h1 h2 h3 h4 h5
        go_wp2_with fail
        refine (write_any (HM.out.spaces 0) c _ (by rw [HCH.out]) (by omega)).mono ?_
        rintro e w2 ⟨rfl, M2⟩
        have HM2 := Lib.hid M2
        clear M2
        go_wp2_with fail
        go_roundg (s.size - k)
        case measure => omega
        case rel => exact ⟨k + 1, A, R, _, v, u, ps, ds, by omega, by omega, rfl, rfl, rfl, by go_num, HM2, HREST, HF2⟩
      case eq hc hn he =>
        try simp only at he
        subst he
        have hch := char_int hlt hc
        have HN := Lib.hid hn
        clear hn
        go_wp2_with fail
        refine (clos_any w wr Bf Sp buf sp A _ R v ps rdn u ds dn HM.out hspl (by omega)).mono ?_
        rintro e w2 ⟨rfl, M2⟩
        have HM2 := Lib.hid (M2.typ (Dn.strOf buf sp))
        have cA := M2.cellA0
        have fA := M2.fzA 0
        clear M2
        by_cases hk1 : k + 1 < s.size
        · have t1 : (((s[k + 1].toNat : Nat) : Int) == 35) = false := by
            refine ne_int (d := 35) fun e => HN.out ?_
            have h9 : k + 1 < s.data.toList.length := by rw [K.bsize]; exact hk1
            rw [List.getElem?_eq_getElem h9]
            exact congrArg some e
          go_wp2_with fail
          go_roundg (s.size - k)
          case measure => omega
          case rel => exact ⟨k + 1, A, R, _, v, u, ps, ds, by omega, by omega, rfl, rfl, rfl, by go_num, HM2, HREST, HF2⟩
        · go_wp2_with fail
          go_roundg (s.size - k)
          case measure => omega
          case rel => exact ⟨k + 1, A, R, _, v, u, ps, ds, by omega, by omega, rfl, rfl, rfl, by go_num, HM2, HREST, HF2⟩
      case plus hc he ht =>
        try simp only at he ht
        subst he
        have hch := char_int hlt hc
        have cA := HM.out.cellA0
        have t1 : ((ty.size : Int) == 0) = false := beq_eq_false_iff_ne.2 (by omega)
        go_wp2_with fail
        refine (clos_any w wr Bf Sp buf sp A _ R v ps rdn u ds dn HM.out hspl (by omega)).mono ?_
        rintro e w2 ⟨rfl, M2⟩
        have cA1 := M2.cellA1
        have fA1 := M2.fzA 1
        have HM3 := Lib.hid (M2.val (Dn.strOf buf sp))
        have cR := HM3.out.cellR
        have hown0 := HM3.out.2.2.2.2.1.2.1
        clear M2 cA cS fS
        go_wp2_with (at_builtin; refine Hid.out ?_)
        refine Lib.hid ?_
        refine wpList_append_lies _ rfl _ _ _ rfl w.heap.size 50 i0 _ 1 8 Tryd.underlying45 hi hz0 hz1 hz2 rfl (by omega) v rdn.length ps rfl (HM3.out.2.2.2.2.1.2.1.alloc _) ⟨w2.heap.size, 0, none⟩ 1 1 [.pointer (some ⟨A, 0, none⟩)] rfl rfl (World.news_of_block (cs := #[.pointer (some ⟨A, 0, none⟩)]) (t := 50) (fr := (0, 0)) (new _ _ (by simp))) (by simp [Value.oneCell']) (by omega) (by unfold maxLen; omega) (by omega) (by have := Below.size HM3.out.1.1; simp at this ⊢; first | done | omega) (w2.heap.size + 1) (by simp) ?_
        intro gg cp w3 hown hgrow hat hlt2
        have x1 := after_cell hgrow hown0 HM3.out.2.2.2.2.1.1
        have x2 := after_fz hgrow hown0 HM3.out.2.2.2.2.1.1
        have hat2 : v.ownBlock = some gg ∨ gg = (w2.setCell ⟨A, 1, none⟩ (.string (Dn.strOf buf sp))).heap.size + 1 := (by simpa using hat)
        have HM4 := Lib.hid (HM3.out.push hown hgrow hat2)
        clear hown hgrow hat hat2 hlt2
        go_wp2_with fail
        go_roundg (s.size - k)
        case measure => omega
        case rel => exact ⟨k + 1, _, R, _, _, u, _, ds, by omega, by omega, rfl, rfl, rfl, by go_num, HM4, HREST, HF2⟩

      case comma hc he ht =>
        try simp only at he ht
        subst he
        have hch := char_int hlt hc
        have cA := HM.out.cellA0
        have t1 : ((ty.size : Int) == 0) = false := beq_eq_false_iff_ne.2 (by omega)
        go_wp2_with fail
        refine (clos_any w wr Bf Sp buf sp A _ R v ps rdn u ds dn HM.out hspl (by omega)).mono ?_
        rintro e w2 ⟨rfl, M2⟩
        have cA1 := M2.cellA1
        have fA1 := M2.fzA 1
        have HM3 := Lib.hid (M2.val (Dn.strOf buf sp))
        have cR := HM3.out.cellR
        have hown0 := HM3.out.2.2.2.2.1.2.1
        clear M2 cA cS fS
        go_wp2_with (at_builtin; refine Hid.out ?_)
        refine Lib.hid ?_
        refine wpList_append_lies _ rfl _ _ _ rfl w.heap.size 50 i0 _ 1 8 Tryd.underlying45 hi hz0 hz1 hz2 rfl (by omega) v rdn.length ps rfl (HM3.out.2.2.2.2.1.2.1.alloc _) ⟨w2.heap.size, 0, none⟩ 1 1 [.pointer (some ⟨A, 0, none⟩)] rfl rfl (World.news_of_block (cs := #[.pointer (some ⟨A, 0, none⟩)]) (t := 50) (fr := (0, 0)) (new _ _ (by simp))) (by simp [Value.oneCell']) (by omega) (by unfold maxLen; omega) (by omega) (by have := Below.size HM3.out.1.1; simp at this ⊢; first | done | omega) (w2.heap.size + 1) (by simp) ?_
        intro gg cp w3 hown hgrow hat hlt2
        have x1 := after_cell hgrow hown0 HM3.out.2.2.2.2.1.1
        have x2 := after_fz hgrow hown0 HM3.out.2.2.2.2.1.1
        have hat2 : v.ownBlock = some gg ∨ gg = (w2.setCell ⟨A, 1, none⟩ (.string (Dn.strOf buf sp))).heap.size + 1 := (by simpa using hat)
        have HM4 := Lib.hid (HM3.out.push hown hgrow hat2)
        have y0 := after_block hgrow hown0 HM3.out.2.2.2.2.2.1 (by decide)
        have y1 : w3.cell? ⟨w.heap.size, 0, none⟩ = some u := by simp [World.cell?, y0]
        have y2 : w3.frozen? ⟨w.heap.size, 0, none⟩ = false := by simp [World.frozen?, y0]
        have hRD : R ≠ w.heap.size := fun e => by
          have a1 := HM3.out.2.2.2.2.1.1
          rw [e, HM3.out.2.2.2.2.2.1] at a1
          simp at a1
        have hRD2 : w.heap.size ≠ R := fun e => hRD e.symm
        have hsz3 : w.heap.size < w3.heap.size := lt_of y0
        clear hown hgrow hat hat2 hlt2 y0
        go_wp2_with (at_builtin; refine Hid.out ?_)
        refine Lib.hid ?_
        refine wpList_append_lies _ rfl _ _ _ rfl w.heap.size 48 i8 _ 1 8 Tryd.underlying42 hi8 hz80 hz81 hz82 rfl (by omega) u dn.length ds rfl (HM4.out.2.2.2.2.2.2.1.alloc _) ⟨w3.heap.size + 1, 0, none⟩ 1 1 [.pointer (some ⟨R, 0, none⟩)] rfl rfl (World.news_of_block (cs := #[.pointer (some ⟨R, 0, none⟩)]) (t := 48) (fr := (0, 0)) (new _ _ (by simp))) (by simp [Value.oneCell']) (by omega) (by unfold maxLen; omega) (by omega) (by have := Below.size HM4.out.1.1; simp at this ⊢; first | done | omega) (w3.heap.size + 1 + 1) (by simp) ?_
        intro gg2 cp2 w5 hown5 hgrow5 hat5 hlt5
        have z0 := after_block hgrow5 HM4.out.2.2.2.2.2.2.1 HM4.out.2.2.2.2.2.1 (by decide)
        have z1 : w5.cell? ⟨w.heap.size, 0, none⟩ = some u := by simp [World.cell?, z0]
        have z2 : w5.frozen? ⟨w.heap.size, 0, none⟩ = false := by simp [World.frozen?, z0]
        have HM5 := Lib.hid (HM4.out.pushR hown5 hgrow5)
        clear hown5 hgrow5 hat5 hlt5 z0
        go_wp2_with fail
        go_roundg (s.size - k)
        case measure => omega
        case rel => exact ⟨k + 1, _, _, _, _, _, _, _, by omega, by omega, rfl, rfl, rfl, by go_num, HM5, HREST, HF2⟩

      case hex c d x y hc hd hs hx hy he =>
        try simp only at he
        subst he
        have hch := char_at hlt hc
        have hk1 : k + 1 < s.size := by have := (List.getElem?_eq_some_iff.1 hd).1; rwa [K.bsize] at this
        have hdh := char_at hk1 hd
        have hns : ∀ e : UInt8, Dn.special e = true → (((s[k].toNat : Nat) : Int) == ((e.toNat : Nat) : Int)) = false := fun e h => by
          rw [hch]
          exact ne_int fun e2 => by rw [e2, h] at hs; cases hs
        have t1 : (((s[k].toNat : Nat) : Int) == 32) = false := hns 32 (by decide)
        have t2 : (((s[k].toNat : Nat) : Int) == 34) = false := hns 34 (by decide)
        have t3 : (((s[k].toNat : Nat) : Int) == 35) = false := hns 35 (by decide)
        have t4 : (((s[k].toNat : Nat) : Int) == 43) = false := hns 43 (by decide)
        have t5 : (((s[k].toNat : Nat) : Int) == 44) = false := hns 44 (by decide)
        have t6 : (((s[k].toNat : Nat) : Int) == 59) = false := hns 59 (by decide)
        have t7 : (((s[k].toNat : Nat) : Int) == 60) = false := hns 60 (by decide)
        have t8 : (((s[k].toNat : Nat) : Int) == 61) = false := hns 61 (by decide)
        have t9 : (((s[k].toNat : Nat) : Int) == 62) = false := hns 62 (by decide)
        have t0 : (((s[k].toNat : Nat) : Int) == 92) = false := hns 92 (by decide)
        have tl : ((s.size : Int) == (k : Int) + 1) = false := beq_eq_false_iff_ne.2 (by omega)
        have hsz : (s.extract k (k + 2)).size = 2 := by rw [ByteArray.size_extract]; omega
        have g0 : (s.extract k (k + 2))[0]'(by omega) = c := by rw [ByteArray.getElem_extract]; simpa using hch
        have g1 : (s.extract k (k + 2))[1]'(by omega) = d := by rw [ByteArray.getElem_extract]; exact hdh
        have hxy : x * 16 + y < 256 := by have := Dn.hexv_lt hx; have := Dn.hexv_lt hy; omega
        have HG := Lib.hid (And.intro g0 (And.intro g1 (And.intro hx hy)))
        have HSZ := Lib.hid hsz
        have HCH := Lib.hid hch
        have b1 : (k : Int) + 2 ≤ (s.size : Int) := by omega
        have b0 : (0 : Int) ≤ (k : Int) := by omega
        have b2 : (k : Int) ≤ (k : Int) + 2 := by omega
        have b3 : ((k : Int) + 2).toNat = k + 2 := by omega
        clear hns hch hdh g0 g1 hs hx hy
        go_wp2_with fail
        refine (hex_any wr.heap.size _ (s.extract k (k + 2)) x y 0 _ HSZ.out (by rw [HG.out.1]; exact HG.out.2.2.1) (by rw [HG.out.2.1]; exact HG.out.2.2.2) (new (wr.setCell ⟨Sp, 0, none⟩ (.int .i64 0)) (.cells #[.int .u8 0] 5) (by simp))).mono ?_
        rintro e w2 ⟨rfl, nd, rfl⟩
        have HM1 := HM.out.spaces 0
        have hbb : Below (wr.setCell ⟨Sp, 0, none⟩ (.int .i64 0)).heap.size (wr.setCell ⟨Sp, 0, none⟩ (.int .i64 0)) ((((wr.setCell ⟨Sp, 0, none⟩ (.int .i64 0)).alloc (.cells #[.int .u8 0] 5)).drewN nd).setCell ⟨wr.heap.size, 0, none⟩ (.int .u8 ((x * 16 + y : Nat) : Int))) :=
          (K.below_drewN ((Below.refl _ _).alloc (Nat.le_refl _) _) nd).setCell (by simp) _
        have HM2 := Lib.hid (HM1.below hbb)
        have e0 : ((((wr.setCell ⟨Sp, 0, none⟩ (.int .i64 0)).alloc (.cells #[.int .u8 0] 5)).drewN nd).setCell ⟨wr.heap.size, 0, none⟩ (.int .u8 ((x * 16 + y : Nat) : Int))).heap[wr.heap.size]? = some (.cells #[.int .u8 ((x * 16 + y : Nat) : Int)] 5 (0, 0)) :=
          K.heap_setCell_at (i := 0) (new (wr.setCell ⟨Sp, 0, none⟩ (.int .i64 0)) (.cells #[.int .u8 0] 5) (by simp)) _
        clear hbb HM1
        generalize (((wr.setCell ⟨Sp, 0, none⟩ (.int .i64 0)).alloc (.cells #[.int .u8 0] 5)).drewN nd).setCell ⟨wr.heap.size, 0, none⟩ (.int .u8 ((x * 16 + y : Nat) : Int)) = w3 at *
        have e1 : w3.cell? ⟨wr.heap.size, 0, none⟩ = some (.int .u8 ((x * 16 + y : Nat) : Int)) := by simp [World.cell?, e0]
        have hcn : ((x * 16 + y : Nat) : Int) = (((UInt8.ofNat (x * 16 + y)).toNat : Nat) : Int) := by rw [UInt8.toNat_ofNat', Nat.mod_eq_of_lt (by simpa using hxy)]
        have HCN := Lib.hid hcn
        obtain ⟨z, hz⟩ : ∃ z : Nat, z = x * 16 + y := ⟨_, rfl⟩
        rw [← hz] at e1
        have HZ := Lib.hid hz
        clear e0 hcn hz cS fS
        go_wp2_with fail
        refine (write_any HM2.out (UInt8.ofNat (x * 16 + y)) _ (by rw [HZ.out]; exact HCN.out) (by omega)).mono ?_
        rintro e w4 ⟨rfl, M4⟩
        have HM4 := Lib.hid M4
        clear M4
        go_wp2_with fail
        go_roundg (s.size - k - 1)
        case measure => omega
        case rel => exact ⟨k + 2, A, R, _, v, u, ps, ds, by omega, by omega, rfl, rfl, rfl, by go_num, HM4, HREST, HF2⟩
    · have hk2 : k = s.size := by omega
      have hst : σ = τ := by
        have h := HR.out
        cases h with
        | nil => rfl
        | cons a b => exact absurd a.lt.1 (by have := b.le; omega)
      subst hst
      have hbl : σ.buf.length ≤ 900 := by have := HF.out.2.1; omega
      have hrl : σ.rdn.length ≤ 900 := by have := HF.out.2.2.1; omega
      have hdl : σ.dn.length ≤ 900 := by have := HF.out.2.2.2.1; omega
      have hxl := Lib.hid (fun (x : List Attr) (hx : x ∈ σ.dn) => (show x.length ≤ 900 from by have := HF.out.2.2.2.2.1 x hx; omega))
      have hspl : σ.sp ≤ σ.buf.length := HF.out.1
      have HK := Lib.hid hk2
      clear HR HF hk2 hg
      obtain ⟨es, sp, buf, ty, rdn, dn⟩ := σ
      try simp only at HM hbl hrl hdl hspl hxl HT
      by_cases hbuf : buf = []
      · subst hbuf
        go_wp2_with fail
        refine (len_any HM.out).mono ?_
        rintro e w2 ⟨rfl, nd, rfl⟩
        have HM2 := Lib.hid (HM.out.drewN nd)
        go_wp2_with fail
        go_ret2
        obtain ⟨d1, d2, d3⟩ := HM2.out.2.2.2.2.2
        have hfin : Dn.final ⟨es, sp, [], ty, rdn, dn⟩ = dn := by unfold Dn.final; rw [if_pos rfl]
        refine ⟨rfl, ?_, HM2.out.1.1⟩
        rw [hfin]
        exact dn_read (l := dn) d1 d2 d3 (by omega) (fun x hx => Nat.le_trans (hxl.out x hx) (by decide))
      · have hb0 : 0 < buf.length := List.length_pos_iff.2 hbuf
        have hb1 : (0 : Int) < (buf.length : Int) := by omega
        have ht : 0 < ty.size := by rcases HT.out with h | h; exact absurd h hbuf; exact h
        have t1 : ((ty.size : Int) == 0) = false := beq_eq_false_iff_ne.2 (by omega)
        have HBF := Lib.hid hbuf
        clear hbuf ht
        go_wp2_with fail
        refine (len_any HM.out).mono ?_
        rintro e w2 ⟨rfl, nd, rfl⟩
        have HM1 := Lib.hid (HM.out.drewN nd)
        have cA := HM1.out.cellA0
        go_wp2_with fail
        refine (clos_any w _ Bf Sp buf sp A _ R v ps rdn u ds dn HM1.out hspl (by omega)).mono ?_
        rintro e w2 ⟨rfl, M2⟩
        have cA1 := M2.cellA1
        have fA1 := M2.fzA 1
        have HM3 := Lib.hid (M2.val (Dn.strOf buf sp))
        have cR := HM3.out.cellR
        have hown0 := HM3.out.2.2.2.2.1.2.1
        clear M2 cA
        go_wp2_with (at_builtin; refine Hid.out ?_)
        refine Lib.hid ?_
        refine wpList_append_lies _ rfl _ _ _ rfl w.heap.size 50 i0 _ 1 8 Tryd.underlying45 hi hz0 hz1 hz2 rfl (by omega) v rdn.length ps rfl (HM3.out.2.2.2.2.1.2.1.alloc _) ⟨w2.heap.size, 0, none⟩ 1 1 [.pointer (some ⟨A, 0, none⟩)] rfl rfl (World.news_of_block (cs := #[.pointer (some ⟨A, 0, none⟩)]) (t := 50) (fr := (0, 0)) (new _ _ (by simp))) (by simp [Value.oneCell']) (by omega) (by unfold maxLen; omega) (by omega) (by have := Below.size HM3.out.1.1; simp at this ⊢; first | done | omega) (w2.heap.size + 1) (by simp) ?_
        intro gg cp w3 hown hgrow hat hlt2
        have x1 := after_cell hgrow hown0 HM3.out.2.2.2.2.1.1
        have x2 := after_fz hgrow hown0 HM3.out.2.2.2.2.1.1
        have hat2 : v.ownBlock = some gg ∨ gg = (w2.setCell ⟨A, 1, none⟩ (.string (Dn.strOf buf sp))).heap.size + 1 := (by simpa using hat)
        have HC := Lib.hid (push_core HM3.out hown hgrow hat2)
        have y0 := after_block hgrow hown0 HM3.out.2.2.2.2.2.1 (by decide)
        have y1 : w3.cell? ⟨w.heap.size, 0, none⟩ = some u := by simp [World.cell?, y0]
        have y2 : w3.frozen? ⟨w.heap.size, 0, none⟩ = false := by simp [World.frozen?, y0]
        have hRD : R ≠ w.heap.size := fun e => by
          have a1 := HM3.out.2.2.2.2.1.1
          rw [e, HM3.out.2.2.2.2.2.1] at a1
          simp at a1
        have hRD2 : w.heap.size ≠ R := fun e => hRD e.symm
        have hsz3 : w.heap.size < w3.heap.size := lt_of y0
        clear hown hgrow hat hat2 hlt2 y0
        go_wp2_with (at_builtin; refine Hid.out ?_)
        refine Lib.hid ?_
        refine wpList_append_lies _ rfl _ _ _ rfl w.heap.size 48 i8 _ 1 8 Tryd.underlying42 hi8 hz80 hz81 hz82 rfl (by omega) u dn.length ds rfl (HC.out.2.2.2.2.2.1.2.1.alloc _) ⟨w3.heap.size, 0, none⟩ 1 1 [.pointer (some ⟨R, 0, none⟩)] rfl rfl (World.news_of_block (cs := #[.pointer (some ⟨R, 0, none⟩)]) (t := 48) (fr := (0, 0)) (new _ _ (by simp))) (by simp [Value.oneCell']) (by omega) (by unfold maxLen; omega) (by omega) (by have := Below.size HC.out.1; simp at this ⊢; first | done | omega) (w3.heap.size + 1) (by simp) ?_
        intro gg2 cp2 w5 hown5 hgrow5 hat5 hlt5
        have z0 := after_block hgrow5 HC.out.2.2.2.2.2.1.2.1 HC.out.2.2.2.2.2.1.1 (by decide)
        have z1 : w5.cell? ⟨w.heap.size, 0, none⟩ = some u := by simp [World.cell?, z0]
        have z2 : w5.frozen? ⟨w.heap.size, 0, none⟩ = false := by simp [World.frozen?, z0]
        have HE := Lib.hid (pushR_core (T := All) HC.out.1 HC.out.2.2.2.2.1 HC.out.2.2.2.2.2.1 hown5 hgrow5 (fun _ _ _ => trivial) ⟨trivial, fun _ _ => trivial, fun _ _ _ => trivial⟩)
        clear hown5 hgrow5 hat5 hlt5 z0
        go_wp2_with fail
        go_ret2
        refine ⟨rfl, ?_, HE.out.1⟩
        obtain ⟨d1, d2, d3⟩ := HE.out.2.2.2
        have hfin : Dn.final ⟨es, sp, buf, ty, rdn, dn⟩ = dn ++ [rdn ++ [(ty, Dn.strOf buf sp)]] := by unfold Dn.final; rw [if_neg HBF.out]
        rw [hfin]
        refine dn_read d1 (by simpa using d2) d3 (by simp; omega) (fun x hx => ?_)
        rw [List.mem_append, List.mem_singleton] at hx
        rcases hx with hx | rfl
        · exact Nat.le_trans (hxl.out x hx) (by decide)
        · simp; omega
end Go.Proofs.YtnjjhklefamaoaaDoor
