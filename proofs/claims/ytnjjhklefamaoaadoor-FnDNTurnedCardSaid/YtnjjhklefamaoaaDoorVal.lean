/-
  The reference's dnValue: where it says that it read a value, the reading machine reads the same one.
-/
import Derived.Test.YtnjjhklefamaoaaDoorWord
import Derived.Deep.RegionHeld3
import Derived.Deep.DrawnRows
import Derived.IntWalk

namespace Go.Proofs.YtnjjhklefamaoaaDoor
open Go.RowKit
open Dn (Attr Name)

/-- the machine goes over a value from one place to another, whatever else it holds -/
def Over (s : ByteArray) (a : Nat) (v : List UInt8) (sp b : Nat) : Prop := ∀ ty rdn dn, Dn.Runs s.data.toList a ⟨false, 0, [], ty, rdn, dn⟩ b ⟨false, sp, v, ty, rdn, dn⟩
theorem Over.nil (s : ByteArray) (a : Nat) : Over s a [] 0 a := fun _ _ _ => .nil _ _
theorem get_at {s : ByteArray} {k : Nat} (h : k < s.size) : s.data.toList[k]? = some s[k] := by
  have hk : k < s.data.toList.length := by rw [K.bsize]; exact h
  rw [List.getElem?_eq_getElem hk]; rfl
theorem Over.plain {s : ByteArray} {a b sp : Nat} {v : List UInt8} (h : Over s a v sp b) (hb : b < s.size) (h1 : s[b] ≠ 92) (h2 : s[b] ≠ 61) (h3 : s[b] ≠ 44) (h4 : s[b] ≠ 43) (h5 : s[b] ≠ 32) : Over s a (v ++ [s[b]]) 0 (b + 1) :=
  fun ty rdn dn => (h ty rdn dn).snoc (.plain b _ _ (get_at hb) rfl h1 h2 h3 h4 h5)
theorem Over.space {s : ByteArray} {a b sp : Nat} {v : List UInt8} (h : Over s a v sp b) (hb : b < s.size) (h1 : s[b] = 32) (hv : v ≠ []) : Over s a (v ++ [s[b]]) (sp + 1) (b + 1) :=
  fun ty rdn dn => by
    have g := get_at hb
    rw [h1] at g ⊢
    exact (h ty rdn dn).snoc (.space b _ g rfl hv)
theorem Over.special {s : ByteArray} {a b sp : Nat} {v : List UInt8} (h : Over s a v sp b) (hb : b + 1 < s.size) (h1 : s[b] = 92) (h2 : Dn.special s[b + 1] = true) : Over s a (v ++ [s[b + 1]]) 0 (b + 2) :=
  fun ty rdn dn => by
    have g := get_at (show b < s.size by omega)
    rw [h1] at g
    exact ((h ty rdn dn).snoc (.back b _ g rfl)).snoc (.special (b + 1) _ _ (get_at hb) rfl h2)
theorem Over.hex {s : ByteArray} {a b sp x y : Nat} {v : List UInt8} (h : Over s a v sp b) (hb : b + 2 < s.size) (h1 : s[b] = 92) (h2 : Dn.special s[b + 1] = false) (hx : Dn.hexv s[b + 1] = some x) (hy : Dn.hexv s[b + 2] = some y) :
    Over s a (v ++ [UInt8.ofNat (x * 16 + y)]) 0 (b + 3) :=
  fun ty rdn dn => by
    have g := get_at (show b < s.size by omega)
    rw [h1] at g
    exact ((h ty rdn dn).snoc (.back b _ g rfl)).snoc (.hex (b + 1) _ _ x y _ (get_at (by omega)) (get_at hb) rfl h2 hx hy)

def ValOk (s : ByteArray) (a : Nat) (v : ByteArray) (b : Nat) : Prop := a < b ∧ b ≤ s.size ∧ 0 < v.size ∧ (∀ h : b < s.size, s[b] = 44 ∨ s[b] = 43) ∧ (∀ h : a < s.size, s[a] ≠ 35) ∧ Over s a v.data.toList 0 b
def ValPost (s : ByteArray) (a : Nat) (w : World) (e : Ending) (w' : World) : Prop := ∃ (v : ByteArray) (b : Nat) (ok : Bool), e = .returned (.tuple #[.string v, .int .i64 b, .bool ok]) ∧ Below w.heap.size w w' ∧ (ok = true → ValOk s a v b)
theorem ValPost.no {s : ByteArray} {a : Nat} {w w' : World} (hb : Below w.heap.size w w') (v : ByteArray) (b : Nat) : ValPost s a w (.returned (.tuple #[.string v, .int .i64 b, .bool false])) w' := ⟨v, b, false, rfl, hb, fun h => by cases h⟩
theorem ext1 (s : ByteArray) (k : Nat) (h : k < s.size) : s.extract k (k + 1) = ⟨#[s[k]]⟩ := by
  apply ByteArray.ext
  rw [ByteArray.data_extract]
  have hk : k < s.data.size := h
  apply Array.ext
  · simp; omega
  · intro i h1 h2
    simp at h2
    subst h2
    simp; rfl
theorem app1 (v : ByteArray) (c : UInt8) : (v ++ ⟨#[c]⟩).data.toList = v.data.toList ++ [c] := by simp
theorem spB_special {c : UInt8} (h : (spB c.toNat = true ∧ c.toNat ≠ 0) ∨ c.toNat = 32 ∨ c.toNat = 35 ∨ c.toNat = 61) : Dn.special c = true := by
  have : ∀ n : _root_.Fin 256, ((spB n.val = true ∧ n.val ≠ 0) ∨ n.val = 32 ∨ n.val = 35 ∨ n.val = 61) → Dn.special (UInt8.ofNat n.val) = true := by decide +kernel
  have h2 := this ⟨c.toNat, c.toNat_lt⟩ h
  simpa using h2
theorem not_special {c : UInt8} {x : Nat} (h : Dn.hexv c = some x) : Dn.special c = false := by
  have : ∀ n : _root_.Fin 256, (Dn.hexv (UInt8.ofNat n.val)).isSome = true → Dn.special (UInt8.ofNat n.val) = false := by decide +kernel
  have h2 := this ⟨c.toNat, c.toNat_lt⟩ (by simp [h])
  simpa using h2
theorem conv_oned (W : World) (x : Int) : (convert 33 9 (.slice (some ⟨W.heap.size, 0, none⟩) 1 1)).run Tryd.prog (W.alloc (.cells #[.int .u8 x] 5)).drew = .ok (.string (strOfNums [x])) (W.alloc (.cells #[.int .u8 x] 5)).drew := by
  refine run_convert_bytes_arg _ 33 5 underlyings.2.1 underlyings.2.2 W.heap.size 0 1 1 [x] rfl (fun i hi => ?_) 9 underlyings.1
  have : i = 0 := by omega
  subst this
  show (W.alloc (.cells #[.int .u8 x] 5)).cell? _ = _
  rw [World.cell?_alloc_at _ _ _ _ (by simp)]; rfl
attribute [local go_sem ↓] Go.wp_at_zero Go.wp_at_succ
theorem ne_u8 {c d : UInt8} (h : c ≠ d) : (((c.toNat : Nat) : Int) == ((d.toNat : Nat) : Int)) = false := by
  rw [beq_eq_false_iff_ne]
  intro e
  exact h (UInt8.toNat_inj.1 (by omega))
theorem nb_ne {c : UInt8} {d : Nat} (h : c.toNat ≠ d) : (((c.toNat : Nat) : Int) != ((d : Nat) : Int)) = true := by
  simp only [bne_iff_ne, ne_eq]; omega
def LoopV (s : ByteArray) (a k : Nat) (val : ByteArray) (b : Bool) (w wr : World) : Prop := K.Grew w wr ∧ a ≤ k ∧ val.size ≤ k ∧ (val.size = 0 → k = a) ∧ ∃ m, (b = false → m = 0) ∧ Over s a val.data.toList m k

set_option maxHeartbeats 40000000 in
set_option maxRecDepth 100000 in
theorem val_any (s : ByteArray) (a : Nat) (w : World) (hs : s.size ≤ 1000) (ha : a ≤ s.size) : Calls Tryd.prog 18 #[.string s, .int .i64 a] w (ValPost s a w) := by
  have hst := conv_one
  go_enter Tryd.func18, Tryd.ntmps18
  by_cases hbad : ∃ h : a < s.size, s[a] = 32 ∨ s[a] = 35
  · obtain ⟨hlt, hb⟩ := hbad
    have b0 : (0 : Int) ≤ (a : Int) := by omega
    rcases hb with hb | hb
    all_goals
      have e : ((s[a].toNat : Nat) : Int) = _ := congrArg (fun c : UInt8 => ((c.toNat : Nat) : Int)) hb
      go_wp2_with fail
      go_ret3
      exact ValPost.no (Below.refl _ _) _ 0
  · have h35 : ∀ h : a < s.size, s[a] ≠ 35 := fun h e => hbad ⟨h, .inr e⟩
    have h32 : ∀ h : a < s.size, s[a] ≠ 32 := fun h e => hbad ⟨h, .inl e⟩
    have H := Lib.hid (And.intro h35 h32)
    by_cases hlt0 : a < s.size
    · have t1 : (((s[a].toNat : Nat) : Int) == 35) = false := ne_u8 (h35 hlt0)
      have t2 : (((s[a].toNat : Nat) : Int) == 32) = false := ne_u8 (h32 hlt0)
      clear hbad h35 h32
      go_wp2_with fail
      go_loopg [1, 4, 8] (s.size + 1 - a) (fun gk i v sp wr => ∃ (k : Nat) (val : ByteArray) (b : Bool), k ≤ s.size ∧ gk = s.size + 1 - k ∧ i = .int .i64 k ∧ v = .string val ∧ sp = .bool b ∧ Hid (LoopV s a k val b w wr))
      case atStart => exact ⟨a, ⟨#[]⟩, false, by omega, by omega, rfl, rfl, rfl, Lib.hid ⟨K.Grew.refl _, Nat.le_refl _, Nat.zero_le _, fun _ => rfl, 0, fun _ => rfl, Over.nil s a⟩⟩
      case round =>
        obtain ⟨k, val, b, hk, hg, rfl, rfl, rfl, HG⟩ := hrel
        clear t1 t2
        have hvs : val.size ≤ 1000 := by have := HG.out.2.2.1; omega
        have hak : a ≤ k := HG.out.2.1
        have b0 : (0 : Int) ≤ (k : Int) := by omega
        by_cases hlt : k < s.size
        · by_cases h44 : s[k] = 44
          · have e44 : ((s[k].toNat : Nat) : Int) = 44 := congrArg (fun c : UInt8 => ((c.toNat : Nat) : Int)) h44
            have HE := Lib.hid h44
            clear h44
            cases b with
            | true =>
              go_wp2_with fail
              go_ret3
              exact ValPost.no HG.out.1 _ _
            | false =>
              by_cases hak2 : a < k
              · go_wp2_with fail
                go_ret3
                refine ⟨val, k, true, rfl, HG.out.1, fun _ => ?_⟩
                obtain ⟨m, hm, ho⟩ := HG.out.2.2.2.2
                have hm0 := hm rfl
                subst hm0
                refine ⟨hak2, hk, ?_, fun _ => .inl HE.out, H.out.1, ho⟩
                rcases Nat.eq_zero_or_pos val.size with h | h
                · exact absurd (HG.out.2.2.2.1 h) (by omega)
                · exact h
              · first
                  | (exfalso; omega)
                  | (go_wp2_with fail
                     go_ret3
                     exact ValPost.no HG.out.1 _ _)

          · by_cases h43 : s[k] = 43
            · have e43 : ((s[k].toNat : Nat) : Int) = 43 := congrArg (fun c : UInt8 => ((c.toNat : Nat) : Int)) h43
              have HE := Lib.hid h43
              clear h44 h43
              cases b with
              | true =>
                go_wp2_with fail
                go_ret3
                exact ValPost.no HG.out.1 _ _
              | false =>
                by_cases hak2 : a < k
                · go_wp2_with fail
                  go_ret3
                  refine ⟨val, k, true, rfl, HG.out.1, fun _ => ?_⟩
                  obtain ⟨m, hm, ho⟩ := HG.out.2.2.2.2
                  have hm0 := hm rfl
                  subst hm0
                  refine ⟨hak2, hk, ?_, fun _ => .inr HE.out, H.out.1, ho⟩
                  rcases Nat.eq_zero_or_pos val.size with h | h
                  · exact absurd (HG.out.2.2.2.1 h) (by omega)
                  · exact h
                · first
                    | (exfalso; omega)
                    | (go_wp2_with fail
                       go_ret3
                       exact ValPost.no HG.out.1 _ _)

            · have n44 : (((s[k].toNat : Nat) : Int) != 44) = true := by have := ne_u8 h44; simpa using this
              have n43 : (((s[k].toNat : Nat) : Int) != 43) = true := by have := ne_u8 h43; simpa using this
              by_cases h92 : s[k] = 92
              · have e92 : ((s[k].toNat : Nat) : Int) = 92 := congrArg (fun c : UInt8 => ((c.toNat : Nat) : Int)) h92
                have HE := Lib.hid h92
                clear h44 h43 h92 n44 n43
                by_cases hk1 : k + 1 < s.size
                · have hsp := special_any s[k + 1].toNat wr s[k + 1].toNat_lt
                  have hz1 : (s.extract (k + 1) (k + 2)).size = 1 := by rw [ByteArray.size_extract]; omega
                  have q1 : (k : Int) + 1 ≤ (k : Int) + 2 := by omega
                  have q2 : (k : Int) + 2 ≤ (s.size : Int) := by omega
                  have q3 : ((k : Int) + 1).toNat = k + 1 := by omega
                  have q4 : ((k : Int) + 2).toNat = k + 2 := by omega
                  have q5 : (0 : Int) ≤ (k : Int) + 1 := by omega
                  have hzz : val.size + (s.extract (k + 1) (k + 2)).size ≤ 1001 := by omega
                  have HVV := Lib.hid (fun hgood : Dn.special s[k + 1] = true => show LoopV s a (k + 2) (val ++ s.extract (k + 1) (k + 2)) false w wr from by
                    obtain ⟨g1, g2, g3, g4, m, g5, g6⟩ := HG.out
                    refine ⟨g1, by omega, by rw [ByteArray.size_append]; omega, fun h => by rw [ByteArray.size_append] at h; omega, 0, fun _ => rfl, ?_⟩
                    rw [ext1 s (k + 1) hk1, app1]
                    exact g6.special hk1 HE.out hgood)
                  cases hb : spB s[k + 1].toNat with
                  | true =>
                    rw [hb] at hsp
                    have HSP := Lib.hid hsp
                    clear hsp
                    by_cases hn0 : s[k + 1].toNat = 0
                    · have e0 : ((s[k + 1].toNat : Nat) : Int) = 0 := by omega
                      have HSPL := Lib.hid (show Calls Tryd.prog 29 #[.int .u8 0] wr (Is true wr) from special_any 0 wr (by decide))
                      have hx0 : Dn.hexv s[k + 1] = none := by unfold Dn.hexv; rw [hn0]; rfl
                      have HHL := Lib.hid (show Calls Tryd.prog 30 #[.int .u8 0] wr (IsI (-1) wr) from by
                        have hh := hexi_any s[k + 1] wr
                        rwa [show hexi s[k + 1] = -1 from by unfold hexi; rw [hx0], hn0] at hh)
                      clear hb hn0 hx0
                      by_cases hk2 : k + 2 < s.size
                      · go_wp2_with fail
                        refine HSPL.out.mono ?_
                        rintro e w2 ⟨rfl, rfl⟩
                        go_wp2_with fail
                        refine HHL.out.mono ?_
                        rintro e w2 ⟨rfl, rfl⟩
                        go_wp2_with fail
                        go_ret3
                        exact ValPost.no HG.out.1 _ 0
                      · go_wp2_with fail
                        refine HSPL.out.mono ?_
                        rintro e w2 ⟨rfl, rfl⟩
                        go_wp2_with fail
                        go_ret3
                        exact ValPost.no HG.out.1 _ 0
                    · have HV := Lib.hid (HVV.out (spB_special (.inl ⟨hb, hn0⟩)))
                      have n0 : (((s[k + 1].toNat : Nat) : Int) != 0) = true := by simp only [bne_iff_ne, ne_eq]; omega
                      clear hb hn0
                      go_wp2_with fail
                      refine HSP.out.mono ?_
                      rintro e w2 ⟨rfl, rfl⟩
                      go_wp2_with fail
                      go_roundg (s.size - k - 1)
                      case measure => omega
                      case rel => exact ⟨k + 2, _, false, by omega, by omega, by go_num, rfl, rfl, HV⟩
                  | false =>
                    rw [hb] at hsp
                    have HSP := Lib.hid hsp
                    clear hsp hb
                    by_cases hn1 : s[k + 1].toNat = 32
                    · have HV := Lib.hid (HVV.out (spB_special (.inr (.inl hn1))))
                      have e1 : ((s[k + 1].toNat : Nat) : Int) = 32 := by omega
                      have HSPL := Lib.hid (show Calls Tryd.prog 29 #[.int .u8 32] wr (Is false wr) from special_any 32 wr (by decide))
                      clear hn1
                      go_wp2_with fail
                      refine HSPL.out.mono ?_
                      rintro e w2 ⟨rfl, rfl⟩
                      go_wp2_with fail
                      go_roundg (s.size - k - 1)
                      case measure => omega
                      case rel => exact ⟨k + 2, _, false, by omega, by omega, by go_num, rfl, rfl, HV⟩
                    · by_cases hn2 : s[k + 1].toNat = 35
                      · have HV := Lib.hid (HVV.out (spB_special (.inr (.inr (.inl hn2)))))
                        have e1 : ((s[k + 1].toNat : Nat) : Int) = 35 := by omega
                        have HSPL := Lib.hid (show Calls Tryd.prog 29 #[.int .u8 35] wr (Is false wr) from special_any 35 wr (by decide))
                        clear hn1 hn2
                        go_wp2_with fail
                        refine HSPL.out.mono ?_
                        rintro e w2 ⟨rfl, rfl⟩
                        go_wp2_with fail
                        go_roundg (s.size - k - 1)
                        case measure => omega
                        case rel => exact ⟨k + 2, _, false, by omega, by omega, by go_num, rfl, rfl, HV⟩
                      · by_cases hn3 : s[k + 1].toNat = 61
                        · have HV := Lib.hid (HVV.out (spB_special (.inr (.inr (.inr hn3)))))
                          have e1 : ((s[k + 1].toNat : Nat) : Int) = 61 := by omega
                          have HSPL := Lib.hid (show Calls Tryd.prog 29 #[.int .u8 61] wr (Is false wr) from special_any 61 wr (by decide))
                          clear hn1 hn2 hn3
                          go_wp2_with fail
                          refine HSPL.out.mono ?_
                          rintro e w2 ⟨rfl, rfl⟩
                          go_wp2_with fail
                          go_roundg (s.size - k - 1)
                          case measure => omega
                          case rel => exact ⟨k + 2, _, false, by omega, by omega, by go_num, rfl, rfl, HV⟩
                        · have m1 : (((s[k + 1].toNat : Nat) : Int) == 32) = false := beq_eq_false_iff_ne.2 (by omega)
                          have m2 : (((s[k + 1].toNat : Nat) : Int) == 35) = false := beq_eq_false_iff_ne.2 (by omega)
                          have m3 : (((s[k + 1].toNat : Nat) : Int) == 61) = false := beq_eq_false_iff_ne.2 (by omega)
                          clear hn1 hn2 hn3
                          by_cases hk2 : k + 2 < s.size
                          · cases hx : Dn.hexv s[k + 1] with
                            | none =>
                              have hh := hexi_any s[k + 1] wr
                              rw [show hexi s[k + 1] = -1 from by unfold hexi; rw [hx]] at hh
                              have HH := Lib.hid hh
                              clear hh hx
                              go_wp2_with fail
                              refine HSP.out.mono ?_
                              rintro e w2 ⟨rfl, rfl⟩
                              go_wp2_with fail
                              refine HH.out.mono ?_
                              rintro e w2 ⟨rfl, rfl⟩
                              go_wp2_with fail
                              go_ret3
                              exact ValPost.no HG.out.1 _ 0
                            | some x =>
                              have hh := fun W => hexi_any s[k + 1] W
                              simp only [show hexi s[k + 1] = (x : Int) from by unfold hexi; rw [hx]] at hh
                              have HH := Lib.hid hh
                              have HX := Lib.hid hx
                              have hx16 := Dn.hexv_lt hx
                              clear hh hx
                              cases hy : Dn.hexv s[k + 2] with
                              | none =>
                                have hh := hexi_any s[k + 2] wr
                                rw [show hexi s[k + 2] = -1 from by unfold hexi; rw [hy]] at hh
                                have HH2 := Lib.hid hh
                                clear hh hy
                                go_wp2_with fail
                                refine HSP.out.mono ?_
                                rintro e w2 ⟨rfl, rfl⟩
                                go_wp2_with fail
                                refine (HH.out _).mono ?_
                                rintro e w2 ⟨rfl, rfl⟩
                                go_wp2_with fail
                                refine HH2.out.mono ?_
                                rintro e w2 ⟨rfl, rfl⟩
                                go_wp2_with fail
                                go_ret3
                                exact ValPost.no HG.out.1 _ 0
                              | some y =>
                                have hh := fun W => hexi_any s[k + 2] W
                                simp only [show hexi s[k + 2] = (y : Int) from by unfold hexi; rw [hy]] at hh
                                have HH2 := Lib.hid hh
                                have HY := Lib.hid hy
                                have hy16 := Dn.hexv_lt hy
                                clear hh hy
                                have HV := Lib.hid (fun (w9 : World) (h9 : K.Grew wr w9) => show LoopV s a (k + 3) (val ++ ⟨#[UInt8.ofNat (x * 16 + y)]⟩) false w w9 from by
                                  obtain ⟨g1, g2, g3, g4, m, g5, g6⟩ := HG.out
                                  refine ⟨g1.then h9, by omega, by rw [ByteArray.size_append]; show val.size + 1 ≤ _; omega, fun h => by rw [ByteArray.size_append] at h; (have : (⟨#[UInt8.ofNat (x * 16 + y)]⟩ : ByteArray).size = 1 := rfl); omega, 0, fun _ => rfl, ?_⟩
                                  rw [app1]
                                  exact g6.hex hk2 HE.out (not_special HX.out) HX.out HY.out)
                                go_wp2_with fail
                                refine HSP.out.mono ?_
                                rintro e w2 ⟨rfl, rfl⟩
                                go_wp2_with fail
                                refine (HH.out _).mono ?_
                                rintro e w2 ⟨rfl, rfl⟩
                                go_wp2_with fail
                                refine (HH2.out _).mono ?_
                                rintro e w2 ⟨rfl, rfl⟩
                                have hstd := conv_oned
                                have hone : ∀ x : Int, (strOfNums [x]).size = 1 := nb
                                have hmod : ((x : Int) * 16 + (y : Int)) % 256 = (x : Int) * 16 + (y : Int) := by omega
                                have p1 : (k : Int) + 2 < (s.size : Int) := by omega
                                have p2 : (0 : Int) ≤ (k : Int) + 2 := by omega
                                have p3 : ((k : Int) + 2).toNat = k + 2 := by omega
                                have hwr : IntKind.i64.wrap ((x : Int) * 16 + (y : Int)) = (x : Int) * 16 + (y : Int) := by exact IntWalk.i64_in _ (by omega)
                                have hwr2 : IntKind.i64.wrap ((x : Int) * 16) = (x : Int) * 16 := by exact IntWalk.i64_in _ (by omega)
                                have hwr3 : IntKind.i64.wrap ((k : Int) + 2) = (k : Int) + 2 := by exact IntWalk.i64_in _ (by omega)
                                have HSN := Lib.hid (show strOfNums [(x : Int) * 16 + (y : Int)] = ⟨#[UInt8.ofNat (x * 16 + y)]⟩ from by
                                  apply ByteArray.ext
                                  simp only [strOfNums, List.map_cons, List.map_nil]
                                  rw [show ((x : Int) * 16 + (y : Int)).toNat = x * 16 + y from by omega])
                                go_wp2_with fail
                                go_region_with (first
                                  | (go_at_call 30; (with_reducible refine (HH.out _).mono ?_); rintro e w' ⟨rfl, rfl⟩)
                                  | (go_at_call 30; (with_reducible refine (HH2.out _).mono ?_); rintro e w' ⟨rfl, rfl⟩))
                                all_goals
                                  have HV2 := Lib.hid (HV.out _ (Below.drew (Below.alloc (Below.refl wr.heap.size wr) (Nat.le_refl _) (.cells #[.int .u8 ((x : Int) * 16 + (y : Int))] 5))))
                                  generalize (wr.alloc (.cells #[.int .u8 ((x : Int) * 16 + (y : Int))] 5)).drew = w9 at HV2 ⊢
                                  go_wp2_with fail
                                  go_roundg (s.size - k - 2)
                                  case measure => omega
                                  case rel => exact ⟨k + 3, _, false, by omega, by omega, by go_num, by rw [HSN.out], rfl, HV2⟩
                          · go_wp2_with fail
                            refine HSP.out.mono ?_
                            rintro e w2 ⟨rfl, rfl⟩
                            go_wp2_with fail
                            go_ret3
                            exact ValPost.no HG.out.1 _ 0
                · go_wp2_with fail
                  go_ret3
                  exact ValPost.no HG.out.1 _ 0

              · have n92 : (((s[k].toNat : Nat) : Int) != 92) = true := by have := ne_u8 h92; simpa using this
                have hsp := special_any s[k].toNat wr s[k].toNat_lt
                have hz1 : (s.extract k (k + 1)).size = 1 := by rw [ByteArray.size_extract]; omega
                have q1 : (k : Int) ≤ (k : Int) + 1 := by omega
                have q2 : (k : Int) + 1 ≤ (s.size : Int) := by omega
                have q3 : ((k : Int) + 1).toNat = k + 1 := by omega
                cases hb : spB s[k].toNat with
                | true =>
                  rw [hb] at hsp
                  have HSP := Lib.hid hsp
                  have HB := Lib.hid hb
                  clear hsp hb
                  by_cases h20 : s[k] = 32
                  · exact absurd (show spB s[k].toNat = false from by rw [h20]; rfl) (by rw [HB.out]; decide)

                  · have n20 : (((s[k].toNat : Nat) : Int) == 32) = false := ne_u8 h20
                    clear h44 h43 h92 h20
                    go_wp2_with fail
                    refine HSP.out.mono ?_
                    rintro e w2 ⟨rfl, rfl⟩
                    go_wp2_with fail
                    go_ret3
                    exact ValPost.no HG.out.1 _ 0
                | false =>
                  rw [hb] at hsp
                  have HSP := Lib.hid hsp
                  clear hsp hb
                  have hzz : val.size + (s.extract k (k + 1)).size ≤ 1001 := by omega
                  by_cases h61 : s[k] = 61
                  · have e61 : ((s[k].toNat : Nat) : Int) = 61 := congrArg (fun c : UInt8 => ((c.toNat : Nat) : Int)) h61
                    have HSPL := Lib.hid (show Calls Tryd.prog 29 #[.int .u8 61] wr (Is false wr) from special_any 61 wr (by decide))
                    clear h44 h43 h92 h61
                    go_wp2_with fail
                    refine HSPL.out.mono ?_
                    rintro e w2 ⟨rfl, rfl⟩
                    go_wp2_with fail
                    go_ret3
                    exact ValPost.no HG.out.1 _ 0
                  · have n61 : (((s[k].toNat : Nat) : Int) == 61) = false := ne_u8 h61
                    by_cases h20 : s[k] = 32
                    · have e20 : ((s[k].toNat : Nat) : Int) = 32 := congrArg (fun c : UInt8 => ((c.toNat : Nat) : Int)) h20
                      have HV := Lib.hid (show LoopV s a (k + 1) (val ++ s.extract k (k + 1)) true w wr from by
                        obtain ⟨g1, g2, g3, g4, m, g5, g6⟩ := HG.out
                        have hne : val.data.toList ≠ [] := fun e => by
                          have h0 : val.size = 0 := by rw [← K.bsize, e]; rfl
                          have := g4 h0
                          subst this
                          exact H.out.2 hlt h20
                        refine ⟨g1, by omega, by rw [ByteArray.size_append]; omega, fun h => by rw [ByteArray.size_append] at h; omega, m + 1, (fun h => by cases h), ?_⟩
                        rw [ext1 s k hlt, app1]
                        exact g6.space hlt h20 hne)
                      have HSPL := Lib.hid (show Calls Tryd.prog 29 #[.int .u8 32] wr (Is false wr) from special_any 32 wr (by decide))
                      clear h44 h43 h92 h61 h20
                      go_wp2_with fail
                      refine HSPL.out.mono ?_
                      rintro e w2 ⟨rfl, rfl⟩
                      go_wp2_with fail
                      go_roundg (s.size - k)
                      case measure => omega
                      case rel => exact ⟨k + 1, _, true, by omega, by omega, by go_num, rfl, rfl, HV⟩
                    · have n20 : (((s[k].toNat : Nat) : Int) == 32) = false := ne_u8 h20
                      by_cases hr : 32 ≤ s[k].toNat ∧ s[k].toNat ≤ 126
                      · obtain ⟨r1, r2⟩ := hr
                        have HV := Lib.hid (show LoopV s a (k + 1) (val ++ s.extract k (k + 1)) false w wr from by
                          obtain ⟨g1, g2, g3, g4, m, g5, g6⟩ := HG.out
                          refine ⟨g1, by omega, by rw [ByteArray.size_append]; omega, fun h => by rw [ByteArray.size_append] at h; omega, 0, fun _ => rfl, ?_⟩
                          rw [ext1 s k hlt, app1]
                          exact g6.plain hlt h92 h61 h44 h43 h20)
                        clear h44 h43 h92 h61 h20
                        go_wp2_with fail
                        refine HSP.out.mono ?_
                        rintro e w2 ⟨rfl, rfl⟩
                        go_wp2_with fail
                        go_roundg (s.size - k)
                        case measure => omega
                        case rel => exact ⟨k + 1, _, false, by omega, by omega, by go_num, rfl, rfl, HV⟩
                      · clear h44 h43 h92 h61 h20
                        have hr2 : s[k].toNat < 32 ∨ 126 < s[k].toNat := by omega
                        clear hr
                        rcases hr2 with hr | hr
                        all_goals
                          go_wp2_with fail
                          refine HSP.out.mono ?_
                          rintro e w2 ⟨rfl, rfl⟩
                          go_wp2_with fail
                          go_ret3
                          exact ValPost.no HG.out.1 _ 0

        · have hk2 : k = s.size := by omega
          cases b with
          | true =>
            go_wp2_with fail
            go_ret3
            exact ValPost.no HG.out.1 _ _
          | false =>
            by_cases hak2 : a < k
            · go_wp2_with fail
              go_ret3
              refine ⟨val, k, true, rfl, HG.out.1, fun _ => ?_⟩
              obtain ⟨m, hm, ho⟩ := HG.out.2.2.2.2
              have hm0 := hm rfl
              subst hm0
              refine ⟨hak2, hk, ?_, fun h => absurd h (by omega), H.out.1, ho⟩
              rcases Nat.eq_zero_or_pos val.size with h | h
              · exact absurd (HG.out.2.2.2.1 h) (by omega)
              · exact h
            · first
                | (exfalso; omega)
                | (go_wp2_with fail
                   go_ret3
                   exact ValPost.no HG.out.1 _ _)

    · have ha2 : a = s.size := by omega
      have HA2 := Lib.hid ha2
      clear hbad h35 h32 ha2
      go_wp2_with fail
      go_loopg [1, 4, 8] 1 (fun gk i v sp wr => i = .int .i64 a ∧ v = .string ⟨#[]⟩ ∧ sp = .bool false ∧ w = wr)
      case atStart => exact ⟨rfl, rfl, rfl, rfl⟩
      case round =>
        obtain ⟨rfl, rfl, rfl, rfl⟩ := hrel
        go_wp2_with fail
        go_ret3
        exact ValPost.no (Below.refl _ _) _ _

end Go.Proofs.YtnjjhklefamaoaaDoor
