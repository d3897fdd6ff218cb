/-
  mqttToNATSSubjectConversion on a plain topic or filter: each slash becomes a point, in a filter + and # become * and >, and nothing else changes; no error.
-/
import Derived.Test.YtjaodjeommkjgaaDoorCopy
import Derived.Deep.RegionLaw
namespace Go.Proofs.YtjaodjeommkjgaaDoor
open Go.RowKit
open K (Lies)

def sub (filter : Bool) (c : UInt8) : UInt8 := if c = 47 then 46 else if filter = true ∧ c = 43 then 42 else if filter = true ∧ c = 35 then 62 else c

def St (s : ByteArray) (filter : Bool) (B ab ao n cap : Nat) (W : World) (k : Nat) (w : World) : Prop :=
  ∃ cp res, Conv B (.slice (some ⟨ab, ao, none⟩) n cap) cp res w ∧ BytesAt w ab ao s.data.toList ∧ Below B W w ∧
    ((cp = false ∧ res = .slice (some ⟨ab, ao, none⟩) n cap ∧ ∀ j, j < k → sub filter (at_ s j) = at_ s j) ∨
     (cp = true ∧ ∃ g c, res = .slice (some ⟨g, 0, none⟩) k c ∧ w.ownsRow (B + 3) 5 1 res k (bvs ((s.data.toList.take k).map (sub filter)))))

def ConvPost (s : ByteArray) (filter : Bool) (n : Nat) (W : World) (e : Ending) (w' : World) : Prop :=
  ∃ rb ro rc, e = .returned (.tuple #[.slice (some ⟨rb, ro, none⟩) n rc, .nilIface]) ∧ BytesAt w' rb ro (s.data.toList.map (sub filter)) ∧ n ≤ rc ∧ Below W.heap.size W w'

theorem st_start {s : ByteArray} {filter : Bool} {ab ao n cap : Nat} {W : World} (hB : BytesAt W ab ao s.data.toList) (hab : ab < W.heap.size) :
    St s filter W.heap.size ab ao n cap W 0 (((W.alloc (.cells #[.slice (some ⟨ab, ao, none⟩) n cap] 37)).alloc (.cells #[.bool false] 4)).alloc (.cells #[.slice (some ⟨ab, ao, none⟩) n cap] 37)) := by
  have hb : Below W.heap.size W (((W.alloc (.cells #[.slice (some ⟨ab, ao, none⟩) n cap] 37)).alloc (.cells #[.bool false] 4)).alloc (.cells #[.slice (some ⟨ab, ao, none⟩) n cap] 37)) :=
    (((Below.refl _ _).alloc (Nat.le_refl _) _).alloc (by simp) _).alloc (by simp; omega) _
  refine ⟨false, _, ⟨?_, ?_, ?_⟩, hB.below hb hab, hb, Or.inl ⟨rfl, rfl, fun j h => by omega⟩⟩
  · rw [Below.heap_alloc _ _ _ (by simp; omega), Below.heap_alloc _ _ _ (by simp)]
    exact K.heap_alloc_at _ _
  · have h := K.heap_alloc_at (W.alloc (.cells #[.slice (some ⟨ab, ao, none⟩) n cap] 37)) (.cells #[.bool false] 4)
    rw [Below.heap_alloc _ _ _ (by simp)]
    simpa using h
  · have h := K.heap_alloc_at ((W.alloc (.cells #[.slice (some ⟨ab, ao, none⟩) n cap] 37)).alloc (.cells #[.bool false] 4)) (.cells #[.slice (some ⟨ab, ao, none⟩) n cap] 37)
    simpa using h

theorem good_ne {filter : Bool} {c : UInt8} (h : good filter c) : c.toNat ≠ 46 ∧ c.toNat ≠ 47 ∧ c.toNat ≠ 32 ∧ c.toNat ≠ 9 ∧ c.toNat ≠ 10 ∧ c.toNat ≠ 13 ∧ c.toNat ≠ 12 ∧ c.toNat ≠ 127 ∧ 45 ≤ c.toNat ∨ (filter = true ∧ (c.toNat = 43 ∨ c.toNat = 35)) := by
  unfold good at h
  rcases h with h | h | h | h | h | h
  · left; omega
  · left; omega
  · left; omega
  · left; omega
  · left; omega
  · right; exact h
theorem u8_eq {c d : UInt8} (h : c.toNat = d.toNat) : c = d := UInt8.toNat_inj.1 h
theorem sub_slash {filter : Bool} {c : UInt8} (h : c.toNat = 47) : sub filter c = 46 := by
  have : c = 47 := u8_eq (by rw [h]; rfl)
  subst this; rfl
theorem sub_plus {c : UInt8} (h : c.toNat = 43) : sub true c = 42 := by
  have : c = 43 := u8_eq (by rw [h]; rfl)
  subst this; rfl
theorem sub_hash {c : UInt8} (h : c.toNat = 35) : sub true c = 62 := by
  have : c = 35 := u8_eq (by rw [h]; rfl)
  subst this; rfl
theorem sub_other {filter : Bool} {c : UInt8} (h : 45 ≤ c.toNat) (h2 : c.toNat ≠ 47) : sub filter c = c := by
  unfold sub
  have n1 : c ≠ 47 := fun e => h2 (by rw [e]; rfl)
  have n2 : c ≠ 43 := fun e => by rw [e] at h; exact absurd h (by decide)
  have n3 : c ≠ 35 := fun e => by rw [e] at h; exact absurd h (by decide)
  simp [n1, n2, n3]
theorem sub_ne {s : ByteArray} {filter : Bool} {k : Nat} (hp : PlainAt s filter k) (h : (at_ s k).toNat ≠ 47) : (sub filter (at_ s k)).toNat ≠ 46 := by
  unfold PlainAt at hp
  rcases hp with hp | hp
  · rcases good_ne hp with hg | ⟨rfl, hg | hg⟩
    · rw [sub_other hg.2.2.2.2.2.2.2.2 h]; exact hg.1
    · rw [sub_plus hg]; decide
    · rw [sub_hash hg]; decide
  · exact absurd hp.1 h
theorem raw_ne {s : ByteArray} {filter : Bool} {k : Nat} (hp : PlainAt s filter k) : (at_ s k).toNat ≠ 46 := by
  unfold PlainAt at hp
  rcases hp with hp | hp
  · rcases good_ne hp with hg | ⟨_, hg | hg⟩ <;> omega
  · omega

theorem take_step (s : ByteArray) (filter : Bool) (k : Nat) (hk : k < s.size) :
    bvs ((s.data.toList.take (k + 1)).map (sub filter)) = bvs ((s.data.toList.take k).map (sub filter)) ++ [bv (sub filter (at_ s k))] := by
  have hl : k < s.data.toList.length := by rw [K.bsize]; exact hk
  rw [List.take_succ_eq_append_getElem hl]
  simp [bvs, at_, List.getD, List.getElem?_eq_getElem hl]
theorem take_same (s : ByteArray) (filter : Bool) (k : Nat) (hk : k ≤ s.size) (h : ∀ j, j < k → sub filter (at_ s j) = at_ s j) :
    (s.data.toList.take k).map (sub filter) = s.data.toList.take k := by
  induction k with
  | zero => simp
  | succ k ih =>
    have hl : k < s.data.toList.length := by rw [K.bsize]; omega
    rw [List.take_succ_eq_append_getElem hl, List.map_append, ih (by omega) (fun j hj => h j (by omega))]
    have := h k (by omega)
    unfold at_ at this
    rw [List.getD, List.getElem?_eq_getElem hl] at this
    simp only [Option.getD_some] at this
    simp only [List.map_cons, List.map_nil, this]
theorem Conv.alloc {B : Nat} {mt res : Value} {cp : Bool} {w : World} (h : Conv B mt cp res w) (o : Obj) : Conv B mt cp res (w.alloc o) :=
  h.below ((Below.refl _ _).alloc h.size o)

theorem st_next {s : ByteArray} {filter : Bool} {ab ao n cap k : Nat} {W w : World} {res : Value} {g c : Nat} {x : Int} (hB : BytesAt W ab ao s.data.toList) (hab : ab < W.heap.size)
    (hC : Conv W.heap.size (.slice (some ⟨ab, ao, none⟩) n cap) true res w) (hW : Below W.heap.size W w)
    (hO : w.ownsRow (W.heap.size + 3) 5 1 (.slice (some ⟨g, 0, none⟩) (k + 1) c) (k + 1) (bvs ((s.data.toList.take k).map (sub filter)) ++ [.int .u8 x])) (hx : (sub filter (at_ s k)).toNat = x) (hk : k < s.size) :
    St s filter W.heap.size ab ao n cap W (k + 1) (w.setCell ⟨W.heap.size + 2, 0, none⟩ (.slice (some ⟨g, 0, none⟩) (k + 1) c)) := by
  have hW2 : Below W.heap.size W (w.setCell ⟨W.heap.size + 2, 0, none⟩ (.slice (some ⟨g, 0, none⟩) (k + 1) c)) := hW.setCell (by simp) _
  refine ⟨true, _, hC.setR _, hB.below hW2 hab, hW2, Or.inr ⟨rfl, g, c, rfl, ?_⟩⟩
  rw [take_step _ _ _ hk]
  refine ownsRow_setCell_below ?_ (by simp) _
  rw [← hx] at hO
  exact hO
theorem st_stay {s : ByteArray} {filter : Bool} {ab ao n cap k : Nat} {W w w' : World} (hB : BytesAt W ab ao s.data.toList) (hab : ab < W.heap.size) (hw : w' = w)
    (hC : Conv W.heap.size (.slice (some ⟨ab, ao, none⟩) n cap) false (.slice (some ⟨ab, ao, none⟩) n cap) w) (hW : Below W.heap.size W w)
    (hs : ∀ j, j < k → sub filter (at_ s j) = at_ s j) (h : sub filter (at_ s k) = at_ s k) :
    St s filter W.heap.size ab ao n cap W (k + 1) w' := by
  subst hw
  refine ⟨false, _, hC, hB.below hW hab, hW, Or.inl ⟨rfl, rfl, fun j hj => ?_⟩⟩
  by_cases e : j = k
  · rw [e]; exact h
  · exact hs j (by omega)

theorem own_cell {w : World} {s : ByteArray} {filter : Bool} {base g c k : Nat} (h : w.ownsRow base 5 1 (.slice (some ⟨g, 0, none⟩) k c) k (bvs ((s.data.toList.take k).map (sub filter)))) (h0 : 0 < k) (hk : k ≤ s.size) :
    w.cell? ⟨g, k - 1, none⟩ = some (.int .u8 (sub filter (at_ s (k - 1))).toNat) := by
  have hl : k - 1 < s.data.toList.length := by rw [K.bsize]; omega
  rw [h.cellAt (k - 1) (by omega)]
  simp only [bvs, List.getElem?_map, List.getElem?_take, show k - 1 < k from by omega, if_true, List.getElem?_eq_getElem hl, Option.map_some, at_, List.getD, Option.getD_some]
  rfl

theorem conv_end1 {s : ByteArray} {filter : Bool} {ab ao n cap : Nat} {W w : World} (hl : s.size = n) (hB : BytesAt w ab ao s.data.toList) (hs : ∀ j, j < n → sub filter (at_ s j) = at_ s j) (hnc : n ≤ cap) (hW : Below W.heap.size W w) :
    ConvPost s filter n W (.returned (.tuple #[.slice (some ⟨ab, ao, none⟩) n cap, .nilIface])) w := by
  refine ⟨ab, ao, cap, rfl, ?_, hnc, hW⟩
  have h := take_same s filter n (by omega) hs
  rw [List.take_of_length_le (by rw [K.bsize]; omega)] at h
  rw [h]
  exact hB
theorem own_cap {w : World} {base g c k : Nat} {xs : List Value} (h : w.ownsRow base 5 1 (.slice (some ⟨g, 0, none⟩) k c) k xs) : k ≤ c := by
  rcases h.2 with ⟨h1, _⟩ | ⟨g2, c2, cur, h1, _, _, h2, _⟩
  · cases h1
  · cases h1; exact h2
theorem bytes_of_own {w : World} {base g c n : Nat} {l : List UInt8} (hl : l.length = n) (h : w.ownsRow base 5 1 (.slice (some ⟨g, 0, none⟩) n c) n (bvs l)) : BytesAt w g 0 l := by
  intro j hj
  rw [Nat.zero_add, h.cellAt j (by omega)]
  simp [bvs, List.getD, List.getElem?_eq_getElem hj]
theorem conv_end2 {s : ByteArray} {filter : Bool} {n base g c : Nat} {W w : World} (hl : s.size = n) (hO : w.ownsRow base 5 1 (.slice (some ⟨g, 0, none⟩) n c) n (bvs ((s.data.toList.take n).map (sub filter)))) (hW : Below W.heap.size W w) :
    ConvPost s filter n W (.returned (.tuple #[.slice (some ⟨g, 0, none⟩) n c, .nilIface])) w := by
  refine ⟨g, 0, c, rfl, ?_, own_cap hO, hW⟩
  rw [List.take_of_length_le (by rw [K.bsize]; omega)] at hO
  exact bytes_of_own (by rw [List.length_map, K.bsize]; exact hl) hO

set_option maxHeartbeats 4000000 in
set_option maxRecDepth 100000 in
theorem conv_any (s : ByteArray) (filter : Bool) (ab ao n cap : Nat) (W : World) (hs : Plain s filter) (hl : s.size = n) (hn : n ≤ 100000) (hnc : n ≤ cap) (hab : ab < W.heap.size) (hB : BytesAt W ab ao s.data.toList) :
    Calls Tryd.prog 39 #[.slice (some ⟨ab, ao, none⟩) n cap, .bool filter] W (ConvPost s filter n W) := by
  obtain ⟨i0, hi0, hz0, hz1, hz2⟩ := info_parts info5
  have HI0 := Lib.hid hi0
  have HI1 := Lib.hid hz0
  have HI2 := Lib.hid hz1
  have HI3 := Lib.hid hz2
  have HL := Lib.hid hl
  have HB := Lib.hid hB
  have HP := Lib.hid hs
  clear hi0 hz0 hz1 hz2 hl hB hs
  go_enter Tryd.func39, Tryd.ntmps39
  go_wp2_with fail
  go_loopg [7, 11] n (fun gk j i wr => ∃ k : Nat, gk + k = n ∧ j = .int .i64 k ∧ i = .int .i64 k ∧ St s filter W.heap.size ab ao n cap W k wr)
  case atStart => exact ⟨0, by omega, rfl, rfl, st_start HB.out hab⟩
  case round =>
    obtain ⟨k, hk1, rfl, rfl, hst⟩ := hrel
    have HK := Lib.hid hk1
    have HS := Lib.hid hst
    have hk : k ≤ n := by omega
    clear hk1 hst
    by_cases hlt : k < n
    · have hat := HP.out.2 k (by have := HL.out; omega)
      obtain ⟨cp, res, hC, hBt, hW, hres⟩ := HS.out
      have c0 := hC.cm
      have c1 := hC.cc
      have c2 := hC.cr
      have f1 := hC.fc
      have f2 := hC.fr
      have cb := hBt k (by rw [K.bsize, HL.out]; exact hlt)
      have HC := Lib.hid hC
      have HBt := Lib.hid hBt
      have HW := Lib.hid hW
      clear hC hBt hW
      obtain ⟨b, hb⟩ : ∃ b, b = at_ s k := ⟨_, rfl⟩
      have cb2 : wr.cell? ⟨ab, ao + k, none⟩ = some (.int .u8 b.toNat) := by rw [cb, hb]; rfl
      clear cb
      have hb8 := b.toNat_lt
      unfold PlainAt at hat
      rw [← hb] at hat
      have HBb := Lib.hid hb
      clear hb
      rcases hres with ⟨rfl, rfl, hsame⟩ | ⟨rfl, g, c, rfl, hown⟩
      · have HSM := Lib.hid hsame
        clear hsame
        rcases hat with hg | ⟨h47, hk0, hk2, hprev, hnext⟩
        · rcases good_ne hg with hg | ⟨rfl, hg | hg⟩
          · obtain ⟨q1, q2, q3, q4, q5, q6, q7, q8, q9⟩ := hg
            have r1 : (((b.toNat : Nat) : Int) == 46) = false := by simp; omega
            have r2 : (((b.toNat : Nat) : Int) == 47) = false := by simp; omega
            have r3 : (((b.toNat : Nat) : Int) == 32) = false := by simp; omega
            have r4 : (((b.toNat : Nat) : Int) == 9) = false := by simp; omega
            have r5 : (((b.toNat : Nat) : Int) == 10) = false := by simp; omega
            have r6 : (((b.toNat : Nat) : Int) == 13) = false := by simp; omega
            have r7 : (((b.toNat : Nat) : Int) == 12) = false := by simp; omega
            have r8 : (((b.toNat : Nat) : Int) == 127) = false := by simp; omega
            have r9 : (((b.toNat : Nat) : Int) == 43) = false := by simp; omega
            have r10 : (((b.toNat : Nat) : Int) == 35) = false := by simp; omega
            have r11 : (((b.toNat : Nat) : Int) == 0) = false := by simp; omega
            have HQ := Lib.hid (And.intro q9 q2)
            clear q1 q2 q3 q4 q5 q6 q7 q8 q9
            go_wp2_with fail
            go_roundg (gk - 1)
            case measure => have := HK.out; omega
            case rel => exact ⟨k + 1, by have := HK.out; omega, by go_num, by go_num, st_stay HB.out hab rfl HC.out HW.out HSM.out (by rw [← HBb.out]; exact sub_other HQ.out.1 HQ.out.2)⟩
          · have HG := Lib.hid hg
            clear hg
            have cb3 : wr.cell? ⟨ab, ao + k, none⟩ = some (.int .u8 43) := by rw [cb2, HG.out]; rfl
            clear cb2
            go_wp2_with fail
            refine (makeCopy_any W.heap.size ab ao n cap s.data.toList k _ _ wr (by rw [K.bsize]; exact HL.out) (by omega) hn hnc hab HC.out HBt.out).mono ?_
            rintro e w1 ⟨g, c, rfl, hC1, hown1, hb1⟩
            have HX1 := Lib.hid hb1
            have HC1 := Lib.hid hC1
            have HW1 := Lib.hid (HW.out.trans (hb1.mono (by omega)))
            rw [← take_same s _ k (by have := HL.out; omega) HSM.out] at hown1
            have HO1 := Lib.hid hown1
            have d2 := hC1.cr
            have e2 := hC1.fr
            clear hC1 hown1 hb1
            have cb4 : w1.cell? ⟨ab, ao + k, none⟩ = some (.int .u8 43) := by rw [← cb3]; exact (HX1.out.cell (p := ⟨ab, ao + k, none⟩) (by simp; omega))
            have d3 := HC1.out.cm
            go_wp2_with (at_builtin; refine wpList_append_lies _ rfl (.tmp 123) (.tmp 124) 37 rfl (W.heap.size + 3) 5 i0 (.int .u8 0) 1 1 Tryd.underlying37 HI0.out HI1.out HI2.out HI3.out rfl (by decide) _ k _ rfl (HO1.out.alloc _) ⟨w1.heap.size, 0, none⟩ 1 1 [.int .u8 42] rfl rfl (K.cells_one _ _ _) (by intro u hu; simp at hu; subst hu; rfl) (by omega) (by unfold maxLen; omega) (by omega) (by have := HC1.out.size; simp; omega) _ rfl ?_; intro g3 cap3 w3 hown3 hgrow3 hat3 hlt3; have HR3 := Lib.hid (fun q hq => HO1.out.lt q hq); have HC3 := Lib.hid ((HC1.out.alloc _).grow hgrow3 (fun q hq => (HR3.out q hq).1)); have HW3 := Lib.hid ((HW1.out.alloc (show W.heap.size ≤ w1.heap.size from by have := HC1.out.size; omega) _).grown hgrow3 (by have := HC1.out.size; simp; omega) (fun q hq => by have := (HR3.out q hq).1; omega)); have HO3 := Lib.hid hown3; have c5 := HC3.out.cr; have f5 := HC3.out.fr; clear hown3 hgrow3 hat3)
            go_roundg (gk - 1)
            case measure => have := HK.out; omega
            case rel => exact ⟨k + 1, by have := HK.out; omega, by go_num, by go_num, st_next HB.out hab HC3.out HW3.out HO3.out (by rw [← HBb.out, sub_plus HG.out]; try rfl) (by have := HL.out; omega)⟩
          · have HG := Lib.hid hg
            clear hg
            have cb3 : wr.cell? ⟨ab, ao + k, none⟩ = some (.int .u8 35) := by rw [cb2, HG.out]; rfl
            clear cb2
            go_wp2_with fail
            refine (makeCopy_any W.heap.size ab ao n cap s.data.toList k _ _ wr (by rw [K.bsize]; exact HL.out) (by omega) hn hnc hab HC.out HBt.out).mono ?_
            rintro e w1 ⟨g, c, rfl, hC1, hown1, hb1⟩
            have HX1 := Lib.hid hb1
            have HC1 := Lib.hid hC1
            have HW1 := Lib.hid (HW.out.trans (hb1.mono (by omega)))
            rw [← take_same s _ k (by have := HL.out; omega) HSM.out] at hown1
            have HO1 := Lib.hid hown1
            have d2 := hC1.cr
            have e2 := hC1.fr
            clear hC1 hown1 hb1
            have cb4 : w1.cell? ⟨ab, ao + k, none⟩ = some (.int .u8 35) := by rw [← cb3]; exact (HX1.out.cell (p := ⟨ab, ao + k, none⟩) (by simp; omega))
            have d3 := HC1.out.cm
            go_wp2_with (at_builtin; refine wpList_append_lies _ rfl (.tmp 126) (.tmp 127) 37 rfl (W.heap.size + 3) 5 i0 (.int .u8 0) 1 1 Tryd.underlying37 HI0.out HI1.out HI2.out HI3.out rfl (by decide) _ k _ rfl (HO1.out.alloc _) ⟨w1.heap.size, 0, none⟩ 1 1 [.int .u8 62] rfl rfl (K.cells_one _ _ _) (by intro u hu; simp at hu; subst hu; rfl) (by omega) (by unfold maxLen; omega) (by omega) (by have := HC1.out.size; simp; omega) _ rfl ?_; intro g3 cap3 w3 hown3 hgrow3 hat3 hlt3; have HR3 := Lib.hid (fun q hq => HO1.out.lt q hq); have HC3 := Lib.hid ((HC1.out.alloc _).grow hgrow3 (fun q hq => (HR3.out q hq).1)); have HW3 := Lib.hid ((HW1.out.alloc (show W.heap.size ≤ w1.heap.size from by have := HC1.out.size; omega) _).grown hgrow3 (by have := HC1.out.size; simp; omega) (fun q hq => by have := (HR3.out q hq).1; omega)); have HO3 := Lib.hid hown3; have c5 := HC3.out.cr; have f5 := HC3.out.fr; clear hown3 hgrow3 hat3)
            go_roundg (gk - 1)
            case measure => have := HK.out; omega
            case rel => exact ⟨k + 1, by have := HK.out; omega, by go_num, by go_num, st_next HB.out hab HC3.out HW3.out HO3.out (by rw [← HBb.out, sub_hash HG.out]; try rfl) (by have := HL.out; omega)⟩
        · have HPR := Lib.hid h47
          have cb3 : wr.cell? ⟨ab, ao + k, none⟩ = some (.int .u8 47) := by rw [cb2, HPR.out]; rfl
          have cn : wr.cell? ⟨ab, ao + (k + 1), none⟩ = some (.int .u8 (at_ s (k + 1)).toNat) := HBt.out (k + 1) (by rw [K.bsize]; exact hk2)
          have cq : wr.cell? ⟨ab, ao + (k - 1), none⟩ = some (.int .u8 (at_ s (k - 1)).toNat) := HBt.out (k - 1) (by rw [K.bsize]; omega)
          have hq : (at_ s (k - 1)).toNat ≠ 46 := raw_ne (HP.out.2 (k - 1) (by omega))
          generalize at_ s (k - 1) = bq at cq hq hprev
          generalize at_ s (k + 1) = bn at cn hnext
          have r1 : (((bq.toNat : Nat) : Int) == 46) = false := by simp; omega
          have r2 : (((bn.toNat : Nat) : Int) == 47) = false := by simp; omega
          have r3 : ((k : Int) == 0) = false := by simp; omega
          have r4 : ((k : Int) == (n : Int) - 1) = false := by have := HL.out; simp; omega
          have hkn : k + 1 < n := by have := HL.out; omega
          clear hq hnext hprev cb2 h47 hk2
          go_wp2_with fail
          refine (makeCopy_any W.heap.size ab ao n cap s.data.toList k _ _ wr (by rw [K.bsize]; exact HL.out) (by omega) hn hnc hab HC.out HBt.out).mono ?_
          rintro e w1 ⟨g, c, rfl, hC1, hown1, hb1⟩
          have HX1 := Lib.hid hb1
          have HC1 := Lib.hid hC1
          have HW1 := Lib.hid (HW.out.trans (hb1.mono (by omega)))
          rw [← take_same s _ k (by have := HL.out; omega) HSM.out] at hown1
          have HO1 := Lib.hid hown1
          have d2 := hC1.cr
          have e2 := hC1.fr
          clear hC1 hown1 hb1
          go_wp2_with (at_builtin; refine wpList_append_lies _ rfl (.tmp 82) (.tmp 83) 37 rfl (W.heap.size + 3) 5 i0 (.int .u8 0) 1 1 Tryd.underlying37 HI0.out HI1.out HI2.out HI3.out rfl (by decide) _ k _ rfl (HO1.out.alloc _) ⟨w1.heap.size, 0, none⟩ 1 1 [.int .u8 46] rfl rfl (K.cells_one _ _ _) (by intro u hu; simp at hu; subst hu; rfl) (by omega) (by unfold maxLen; omega) (by omega) (by have := HC1.out.size; simp; omega) _ rfl ?_; intro g3 cap3 w3 hown3 hgrow3 hat3 hlt3; have HR3 := Lib.hid (fun q hq => HO1.out.lt q hq); have HC3 := Lib.hid ((HC1.out.alloc _).grow hgrow3 (fun q hq => (HR3.out q hq).1)); have HW3 := Lib.hid ((HW1.out.alloc (show W.heap.size ≤ w1.heap.size from by have := HC1.out.size; omega) _).grown hgrow3 (by have := HC1.out.size; simp; omega) (fun q hq => by have := (HR3.out q hq).1; omega)); have HO3 := Lib.hid hown3; have c5 := HC3.out.cr; have f5 := HC3.out.fr; clear hown3 hgrow3 hat3)
          go_roundg (gk - 1)
          case measure => have := HK.out; omega
          case rel => exact ⟨k + 1, by have := HK.out; omega, by go_num, by go_num, st_next HB.out hab HC3.out HW3.out HO3.out (by rw [← HBb.out, sub_slash HPR.out]; try rfl) (by have := HL.out; omega)⟩
      · have HO := Lib.hid hown
        clear hown
        rcases hat with hg | ⟨h47, hk0, hk2, hprev, hnext⟩
        · rcases good_ne hg with hg | ⟨rfl, hg | hg⟩
          · obtain ⟨q1, q2, q3, q4, q5, q6, q7, q8, q9⟩ := hg
            have r1 : (((b.toNat : Nat) : Int) == 46) = false := by simp; omega
            have r2 : (((b.toNat : Nat) : Int) == 47) = false := by simp; omega
            have r3 : (((b.toNat : Nat) : Int) == 32) = false := by simp; omega
            have r4 : (((b.toNat : Nat) : Int) == 9) = false := by simp; omega
            have r5 : (((b.toNat : Nat) : Int) == 10) = false := by simp; omega
            have r6 : (((b.toNat : Nat) : Int) == 13) = false := by simp; omega
            have r7 : (((b.toNat : Nat) : Int) == 12) = false := by simp; omega
            have r8 : (((b.toNat : Nat) : Int) == 127) = false := by simp; omega
            have r9 : (((b.toNat : Nat) : Int) == 43) = false := by simp; omega
            have r10 : (((b.toNat : Nat) : Int) == 35) = false := by simp; omega
            have r11 : (((b.toNat : Nat) : Int) == 0) = false := by simp; omega
            have HQ := Lib.hid (And.intro q9 q2)
            clear q1 q2 q3 q4 q5 q6 q7 q8 q9
            go_wp2_with fail
            have k0 : (0 : Int) ≤ (k : Int) := by omega
            have k1 : (k : Int) < (n : Int) := by omega
            have a2 := (HC.out.alloc (.cells #[.int .u8 b.toNat] 5)).cr
            have a3 := (HC.out.alloc (.cells #[.int .u8 b.toNat] 5)).fr
            have a0 := (HC.out.alloc (.cells #[.int .u8 b.toNat] 5)).cm
            go_region_law (first | (refine step_append_lies _ (by rfl) (.tmp 28) (.tmp 33) 37 (by rfl) (W.heap.size + 3) 5 i0 (.int .u8 0) 1 1 Tryd.underlying37 HI0.out HI1.out HI2.out HI3.out rfl (by decide) _ k _ (by rfl) ((HO.out.alloc _).drew) ⟨wr.heap.size, 0, none⟩ 1 1 [.int .u8 b.toNat] (by rfl) (by rfl) (World.news_of_block (cs := #[.int .u8 b.toNat]) (t := 5) (fr := (0, 0)) (heap_alloc_new wr _)) (by intro u hu; simp at hu; subst hu; rfl) (by omega) (by unfold maxLen; omega) (by omega) (by have := HC.out.size; simp; omega) (wr.heap.size + 1) (by simp) ?_; intro g3 cap3 w3 hown3 hgrow3 hat3 hlt3; have HR3 := Lib.hid (fun q hq => HO.out.lt q hq); have HC3 := Lib.hid (((HC.out.alloc _).drewN 1).grow hgrow3 (fun q hq => (HR3.out q hq).1)); have HW3 := Lib.hid ((Below.drew (HW.out.alloc (show W.heap.size ≤ wr.heap.size from by have := HC.out.size; omega) _)).grown hgrow3 (show W.heap.size ≤ (wr.alloc _).heap.size from by have := HC.out.size; simp; omega) (fun q hq => by have := (HR3.out q hq).1; omega)); have HO3 := Lib.hid hown3; have c5 := HC3.out.cr; have f5 := HC3.out.fr; clear hown3 hgrow3 hat3))
            all_goals
              go_wp2_with fail
              go_roundg (gk - 1)
              case measure => have := HK.out; omega
              case rel => exact ⟨k + 1, by have := HK.out; omega, by go_num, by go_num, st_next HB.out hab HC3.out HW3.out HO3.out (by rw [← HBb.out, sub_other HQ.out.1 HQ.out.2]; try rfl) (by have := HL.out; omega)⟩
          · have HG := Lib.hid hg
            clear hg
            have cb3 : wr.cell? ⟨ab, ao + k, none⟩ = some (.int .u8 43) := by rw [cb2, HG.out]; rfl
            clear cb2
            go_wp2_with (at_builtin; refine wpList_append_lies _ rfl (.tmp 123) (.tmp 124) 37 rfl (W.heap.size + 3) 5 i0 (.int .u8 0) 1 1 Tryd.underlying37 HI0.out HI1.out HI2.out HI3.out rfl (by decide) _ k _ rfl (HO.out.alloc _) ⟨wr.heap.size, 0, none⟩ 1 1 [.int .u8 42] rfl rfl (K.cells_one _ _ _) (by intro u hu; simp at hu; subst hu; rfl) (by omega) (by unfold maxLen; omega) (by omega) (by have := HC.out.size; simp; omega) _ rfl ?_; intro g3 cap3 w3 hown3 hgrow3 hat3 hlt3; have HR3 := Lib.hid (fun q hq => HO.out.lt q hq); have HC3 := Lib.hid ((HC.out.alloc _).grow hgrow3 (fun q hq => (HR3.out q hq).1)); have HW3 := Lib.hid ((HW.out.alloc (show W.heap.size ≤ wr.heap.size from by have := HC.out.size; omega) _).grown hgrow3 (by have := HC.out.size; simp; omega) (fun q hq => by have := (HR3.out q hq).1; omega)); have HO3 := Lib.hid hown3; have c5 := HC3.out.cr; have f5 := HC3.out.fr; clear hown3 hgrow3 hat3)
            go_roundg (gk - 1)
            case measure => have := HK.out; omega
            case rel => exact ⟨k + 1, by have := HK.out; omega, by go_num, by go_num, st_next HB.out hab HC3.out HW3.out HO3.out (by rw [← HBb.out, sub_plus HG.out]; try rfl) (by have := HL.out; omega)⟩
          · have HG := Lib.hid hg
            clear hg
            have cb3 : wr.cell? ⟨ab, ao + k, none⟩ = some (.int .u8 35) := by rw [cb2, HG.out]; rfl
            clear cb2
            go_wp2_with (at_builtin; refine wpList_append_lies _ rfl (.tmp 126) (.tmp 127) 37 rfl (W.heap.size + 3) 5 i0 (.int .u8 0) 1 1 Tryd.underlying37 HI0.out HI1.out HI2.out HI3.out rfl (by decide) _ k _ rfl (HO.out.alloc _) ⟨wr.heap.size, 0, none⟩ 1 1 [.int .u8 62] rfl rfl (K.cells_one _ _ _) (by intro u hu; simp at hu; subst hu; rfl) (by omega) (by unfold maxLen; omega) (by omega) (by have := HC.out.size; simp; omega) _ rfl ?_; intro g3 cap3 w3 hown3 hgrow3 hat3 hlt3; have HR3 := Lib.hid (fun q hq => HO.out.lt q hq); have HC3 := Lib.hid ((HC.out.alloc _).grow hgrow3 (fun q hq => (HR3.out q hq).1)); have HW3 := Lib.hid ((HW.out.alloc (show W.heap.size ≤ wr.heap.size from by have := HC.out.size; omega) _).grown hgrow3 (by have := HC.out.size; simp; omega) (fun q hq => by have := (HR3.out q hq).1; omega)); have HO3 := Lib.hid hown3; have c5 := HC3.out.cr; have f5 := HC3.out.fr; clear hown3 hgrow3 hat3)
            go_roundg (gk - 1)
            case measure => have := HK.out; omega
            case rel => exact ⟨k + 1, by have := HK.out; omega, by go_num, by go_num, st_next HB.out hab HC3.out HW3.out HO3.out (by rw [← HBb.out, sub_hash HG.out]; try rfl) (by have := HL.out; omega)⟩
        · have HPR := Lib.hid h47
          have cb3 : wr.cell? ⟨ab, ao + k, none⟩ = some (.int .u8 47) := by rw [cb2, HPR.out]; rfl
          have cn : wr.cell? ⟨ab, ao + (k + 1), none⟩ = some (.int .u8 (at_ s (k + 1)).toNat) := HBt.out (k + 1) (by rw [K.bsize]; exact hk2)
          have cq : wr.cell? ⟨g, k - 1, none⟩ = some (.int .u8 (sub filter (at_ s (k - 1))).toNat) := own_cell HO.out (by omega) (by have := HL.out; omega)
          have hq : (sub filter (at_ s (k - 1))).toNat ≠ 46 := sub_ne (HP.out.2 (k - 1) (by omega)) hprev
          generalize sub filter (at_ s (k - 1)) = bq at cq hq
          generalize at_ s (k + 1) = bn at cn hnext
          have r1 : (((bq.toNat : Nat) : Int) == 46) = false := by simp; omega
          have r2 : (((bn.toNat : Nat) : Int) == 47) = false := by simp; omega
          have r3 : ((k : Int) == 0) = false := by simp; omega
          have r4 : ((k : Int) == (n : Int) - 1) = false := by have := HL.out; simp; omega
          have hkn : k + 1 < n := by have := HL.out; omega
          clear hq hnext hprev cb2 h47 hk2
          go_wp2_with (at_builtin; refine wpList_append_lies _ rfl (.tmp 82) (.tmp 83) 37 rfl (W.heap.size + 3) 5 i0 (.int .u8 0) 1 1 Tryd.underlying37 HI0.out HI1.out HI2.out HI3.out rfl (by decide) _ k _ rfl (HO.out.alloc _) ⟨wr.heap.size, 0, none⟩ 1 1 [.int .u8 46] rfl rfl (K.cells_one _ _ _) (by intro u hu; simp at hu; subst hu; rfl) (by omega) (by unfold maxLen; omega) (by omega) (by have := HC.out.size; simp; omega) _ rfl ?_; intro g3 cap3 w3 hown3 hgrow3 hat3 hlt3; have HR3 := Lib.hid (fun q hq => HO.out.lt q hq); have HC3 := Lib.hid ((HC.out.alloc _).grow hgrow3 (fun q hq => (HR3.out q hq).1)); have HW3 := Lib.hid ((HW.out.alloc (show W.heap.size ≤ wr.heap.size from by have := HC.out.size; omega) _).grown hgrow3 (by have := HC.out.size; simp; omega) (fun q hq => by have := (HR3.out q hq).1; omega)); have HO3 := Lib.hid hown3; have c5 := HC3.out.cr; have f5 := HC3.out.fr; clear hown3 hgrow3 hat3)
          go_roundg (gk - 1)
          case measure => have := HK.out; omega
          case rel => exact ⟨k + 1, by have := HK.out; omega, by go_num, by go_num, st_next HB.out hab HC3.out HW3.out HO3.out (by rw [← HBb.out, sub_slash HPR.out]; try rfl) (by have := HL.out; omega)⟩
    · obtain rfl : k = n := by omega
      obtain ⟨cp, res, hC, hBt, hW, hres⟩ := HS.out
      have c0 := hC.cm
      have c1 := hC.cc
      have c2 := hC.cr
      have hp := HP.out.2 (k - 1) (by have := HL.out; have := HP.out.1; omega)
      have h0 : 0 < k := by have := HL.out; have := HP.out.1; omega
      rcases hres with ⟨rfl, rfl, hsame⟩ | ⟨rfl, g, c, rfl, hown⟩
      · have HC := Lib.hid (And.intro hBt hsame)
        have HW := Lib.hid hW
        clear hBt hsame hW hC hp
        go_wp2_with fail
        go_ret2
        exact conv_end1 HL.out HC.out.1 HC.out.2 hnc HW.out
      · have hne : (at_ s (k - 1)).toNat ≠ 47 := by
          have := HL.out
          unfold PlainAt at hp
          rcases hp with hp | hp
          · rcases good_ne hp with hg | ⟨_, hg | hg⟩ <;> omega
          · omega
        have cq : wr.cell? ⟨g, k - 1, none⟩ = some (.int .u8 (sub filter (at_ s (k - 1))).toNat) := own_cell hown h0 (by have := HL.out; omega)
        have hq : (sub filter (at_ s (k - 1))).toNat ≠ 46 := sub_ne hp hne
        have HO := Lib.hid hown
        have HW := Lib.hid hW
        generalize sub filter (at_ s (k - 1)) = bq at cq hq
        have r1 : (((bq.toNat : Nat) : Int) == 46) = false := by simp; omega
        have hkc : (k : Int) ≤ (c : Int) := by have := own_cap hown; omega
        clear hBt hW hC hp hown hne hq
        go_wp2_with fail
        go_ret2
        exact conv_end2 HL.out HO.out HW.out
end Go.Proofs.YtjaodjeommkjgaaDoor
