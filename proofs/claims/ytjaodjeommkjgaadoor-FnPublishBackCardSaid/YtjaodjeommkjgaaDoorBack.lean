/-
  impl.SubjectToTopic on the subject of a plain topic: the topic.
-/
import Derived.Test.YtjaodjeommkjgaaDoorSubj
namespace Go.Proofs.YtjaodjeommkjgaaDoor
open Go.RowKit
open K (Lies)

def inv (c : UInt8) : UInt8 := if c = 46 then 47 else c
def Sb (u : ByteArray) (n g : Nat) (W : World) (k : Nat) (w : World) : Prop :=
  ∃ ys : List UInt8, ys.length = n ∧ w.ownsRow W.heap.size 5 1 (.slice (some ⟨g, 0, none⟩) n n) n (bvs ys) ∧ (∀ j, j < k → ys.getD j 0 = inv (at_ u j)) ∧ Below W.heap.size W w
def BackPost (u : ByteArray) (n : Nat) (W : World) (e : Ending) (w' : World) : Prop :=
  ∃ rb ro rc, e = .returned (.slice (some ⟨rb, ro, none⟩) n rc) ∧ BytesAt w' rb ro (u.data.toList.map inv) ∧ Below W.heap.size W w'

theorem inv_dot {c : UInt8} (h : c.toNat = 46) : (inv c) = 47 := by
  have : c = 46 := u8_eq (by rw [h]; rfl)
  subst this; rfl
theorem inv_other {c : UInt8} (h : ¬ c.toNat = 46) : (inv c) = c := by
  unfold inv
  have : c ≠ 46 := fun e => h (by rw [e]; rfl)
  simp [this]
theorem sb_start (u : ByteArray) (n : Nat) (W w1 : World) (h : w1.ownsRow W.heap.size 5 1 (.slice (some ⟨W.heap.size, 0, none⟩) n n) n (madeCells (Value.int .u8 0).cells (n * 1)).toList) (hg : W.grownBy w1 none) : Sb u n W.heap.size W 0 w1 := by
  refine ⟨List.replicate n 0, by simp, ?_, fun j hj => by omega, (Below.refl _ _).grown hg (Nat.le_refl _) (by simp)⟩
  have e : bvs (List.replicate n 0) = List.replicate n (.int .u8 0) := by simp [bvs, bv]
  rw [e, ← toList_madeCells_one]; rw [Nat.mul_one] at h; exact h
theorem sb_next {u : ByteArray} {n k : Nat} {W w w' : World} {x : UInt8} (h : ∃ ys : List UInt8, ys.length = n ∧ w.ownsRow W.heap.size 5 1 (.slice (some ⟨W.heap.size, 0, none⟩) n n) n (bvs ys) ∧ (∀ j, j < k → ys.getD j 0 = inv (at_ u j)) ∧ Below W.heap.size W w)
    (hk : k < n) (hw : w' = w.setCell ⟨W.heap.size, k, none⟩ (bv x)) (hx : inv (at_ u k) = x) : Sb u n W.heap.size W (k + 1) w' := by
  obtain ⟨ys, hy, hown, hys, hb⟩ := h
  subst hw
  refine ⟨ys.set k x, by simpa using hy, ?_, fun j hj => ?_, hb.setCell (Nat.le_refl _) _⟩
  · have := (hown.stored k (bv x)).1
    rw [show bvs (ys.set k x) = (bvs ys).set k (bv x) from by simp [bvs, List.map_set]]
    exact this
  · by_cases e : j = k
    · subst e; simp [List.getD, hy, hk, hx]
    · rw [← hys j (by omega)]
      simp only [List.getD]
      rw [List.getElem?_set_ne (by omega)]
theorem sb_end {u : ByteArray} {n : Nat} {W w : World} (hl : u.size = n) (h : Sb u n W.heap.size W n w) : BackPost u n W (.returned (.slice (some ⟨W.heap.size, 0, none⟩) n n)) w := by
  obtain ⟨ys, hy, hown, hys, hb⟩ := h
  refine ⟨W.heap.size, 0, n, rfl, ?_, hb⟩
  have e : u.data.toList.map inv = ys := by
    apply List.ext_getElem
    · rw [List.length_map, K.bsize]; omega
    · intro j h1 h2
      have h3 := hys j (by omega)
      rw [List.getD, List.getElem?_eq_getElem h2] at h3
      simp only [Option.getD_some] at h3
      rw [h3, List.getElem_map]
      rw [List.length_map] at h1
      simp [at_, List.getD, List.getElem?_eq_getElem h1]
  rw [e]
  exact bytes_of_own hy hown

set_option maxHeartbeats 4000000 in
set_option maxRecDepth 100000 in
theorem back_any (u : ByteArray) (ab ao n cap : Nat) (W : World) (hs : ∀ j, j < n → (at_ u j).toNat ≠ 47) (hl : u.size = n) (h0 : 0 < n) (hn : n ≤ 100000) (hab : ab < W.heap.size) (hB : BytesAt W ab ao u.data.toList) :
    Calls Tryd.prog 33 #[.slice (some ⟨ab, ao, none⟩) n cap] W (BackPost u n W) := by
  obtain ⟨i0, hi0, hz0, hz1, hz2⟩ := info_parts info5
  have HI0 := Lib.hid hi0
  have HI1 := Lib.hid hz0
  have HI2 := Lib.hid hz1
  have HI3 := Lib.hid hz2
  have HL := Lib.hid hl
  have HB := Lib.hid hB
  have HP := Lib.hid hs
  clear hi0 hz0 hz1 hz2 hl hB hs
  go_enter Tryd.func33, Tryd.ntmps33
  go_wp2_with (at_make; refine wpList_make_full _ rfl (.tmp 9) (.tmp 9) 37 rfl W.heap.size 5 i0 (.int .u8 0) 1 Tryd.underlying37 HI0.out HI1.out HI2.out .i64 .i64 _ _ n rfl rfl rfl rfl (by rw [HI3.out]; omega) (by unfold maxLen; omega) (by simp) ?_; intro w1 hown1 hgrow1; have HS1 := Lib.hid (sb_start u n W w1 hown1 hgrow1); clear hown1 hgrow1)
  go_loopg [5, 6] n (fun gk j i wr => ∃ k : Nat, gk + k = n ∧ j = .int .i64 k ∧ i = .int .i64 k ∧ Sb u n W.heap.size W k wr)
  case atStart => exact ⟨0, by omega, rfl, rfl, HS1.out⟩
  case round =>
    obtain ⟨k, hk1, rfl, rfl, hst⟩ := hrel
    have HK := Lib.hid hk1
    have hk : k ≤ n := by omega
    clear hk1
    by_cases hlt : k < n
    · obtain ⟨ys, hy, hown, hys, hb⟩ := hst
      have cb : wr.cell? ⟨ab, ao + k, none⟩ = some (.int .u8 (at_ u k).toNat) := (hb.cell (p := ⟨ab, ao + k, none⟩) hab).trans (HB.out k (by rw [K.bsize, HL.out]; exact hlt))
      have f1 := hown.frozenAt k
      have c1 : wr.cell? ⟨W.heap.size, k, none⟩ = some (bv (ys.getD k 0)) := by
        rw [hown.cellAt k (by omega)]
        simp [bvs, List.getD, List.getElem?_eq_getElem (show k < ys.length by omega)]
      have hne := HP.out k hlt
      obtain ⟨b, hbq⟩ : ∃ b, b = at_ u k := ⟨_, rfl⟩
      rw [← hbq] at cb hne
      have HQ := Lib.hid hbq
      have q1 : ((b.toNat : Int) == 47) = false := by simp; omega
      have p1 : (k : Int) < (n : Int) := by omega
      have HS := Lib.hid (show ∃ ys : List UInt8, ys.length = n ∧ wr.ownsRow W.heap.size 5 1 (.slice (some ⟨W.heap.size, 0, none⟩) n n) n (bvs ys) ∧ (∀ j, j < k → ys.getD j 0 = inv (at_ u j)) ∧ Below W.heap.size W wr from ⟨ys, hy, hown, hys, hb⟩)
      clear hy hown hys hb hbq
      by_cases h46 : b.toNat = 46
      · have q2 : ((b.toNat : Int) == 46) = true := by simp; omega
        have H46 := Lib.hid h46
        clear h46
        go_wp2_with fail
        go_roundg (gk - 1)
        case measure => have := HK.out; omega
        case rel => exact ⟨k + 1, by have := HK.out; omega, by go_num, by go_num, sb_next (x := 47) HS.out hlt rfl (by rw [← HQ.out]; exact inv_dot H46.out)⟩
      · have q2 : ((b.toNat : Int) == 46) = false := by simp; omega
        have H46 := Lib.hid h46
        clear h46
        go_wp2_with fail
        go_roundg (gk - 1)
        case measure => have := HK.out; omega
        case rel => exact ⟨k + 1, by have := HK.out; omega, by go_num, by go_num, sb_next (x := b) HS.out hlt rfl (by rw [← HQ.out]; exact inv_other H46.out)⟩
    · obtain rfl : k = n := by omega
      have HS := Lib.hid hst
      clear hst
      go_wp2_with fail
      go_ret
      exact sb_end HL.out HS.out

set_option maxRecDepth 100000 in
theorem back27 (u : ByteArray) (ab ao n cap : Nat) (W : World) (hs : ∀ j, j < n → (at_ u j).toNat ≠ 47) (hl : u.size = n) (h0 : 0 < n) (hn : n ≤ 100000) (hab : ab < W.heap.size) (hB : BytesAt W ab ao u.data.toList) :
    Calls Tryd.prog 27 #[.slice (some ⟨ab, ao, none⟩) n cap] W (BackPost u n W) := by
  have h := back_any u ab ao n cap W hs hl h0 hn hab hB
  go_enter Tryd.func27, Tryd.ntmps27
  go_wp2_with fail
  refine h.mono ?_
  rintro e w' ⟨rb, ro, rc, rfl, h1, h2⟩
  have H := Lib.hid (And.intro h1 h2)
  clear h1 h2 hB hs h
  go_wp2_with fail
  go_ret
  exact ⟨rb, ro, rc, rfl, H.out⟩

def back (u : ByteArray) : ByteArray := ⟨(u.data.toList.map inv).toArray⟩
def TopicPost (u : ByteArray) (W : World) (e : Ending) (w' : World) : Prop := e = .returned (.string (back u)) ∧ Below W.heap.size W w'

set_option maxRecDepth 100000 in
theorem subjectToTopic_any (u : ByteArray) (W : World) (hs : ∀ j, j < u.size → (at_ u j).toNat ≠ 47) (h0 : 0 < u.size) (hn : u.size ≤ 100000) :
    Calls Tryd.prog 20 #[.string u] W (TopicPost u W) := by
  have hcv := conv_bytes W u
  have hB := bytesAt_world W u
  have hsz := Lib.bytesWorld_size W 5 u
  have hbb := K.bytesWorld_below W 5 u
  have HP := Lib.hid hs
  clear hs
  go_enter Tryd.func20, Tryd.ntmps20
  go_wp2_with fail
  refine (back27 u W.heap.size 0 _ _ _ HP.out rfl h0 hn (by rw [hsz]; omega) hB).mono ?_
  rintro e w' ⟨rb, ro, rc, rfl, h1, h2⟩
  have hc2 := conv_slice w' rb ro u.size rc _ (by rw [List.length_map, K.bsize]) h1
  have H := Lib.hid (hbb.trans (h2.mono (by omega)))
  clear h1 h2 hB hsz hbb
  go_wp2_with fail
  go_ret
  exact ⟨rfl, H.out⟩

theorem inv_sub {c : UInt8} (h : c.toNat ≠ 46) : inv (sub false c) = c := by
  rcases sub_cases false c with ⟨h1, h2⟩ | ⟨_, h1, _⟩ | ⟨_, h1, _⟩ | ⟨h1, _, h2⟩
  · rw [h2]
    have : c = 47 := u8_eq (by rw [h1]; rfl)
    subst this; rfl
  · cases h1
  · cases h1
  · rw [h2]; exact inv_other h
theorem mem_at {s : ByteArray} {c : UInt8} (h : c ∈ s.data.toList) : ∃ k, k < s.size ∧ at_ s k = c := by
  obtain ⟨k, hk, rfl⟩ := List.getElem_of_mem h
  exact ⟨k, by rw [← K.bsize]; exact hk, by simp [at_, List.getD, List.getElem?_eq_getElem hk]⟩
theorem back_subj {s : ByteArray} (hs : Plain s false) : back (subj false s) = s := by
  apply ba_ext
  rw [show (back (subj false s)).data.toList = (subj false s).data.toList.map inv from by simp [back], subj_data, List.map_map]
  conv => rhs; rw [← List.map_id s.data.toList]
  apply List.map_congr_left
  intro c hc
  obtain ⟨k, hk, rfl⟩ := mem_at hc
  exact inv_sub (raw_ne (hs.2 k hk))
theorem subj_at (filter : Bool) (s : ByteArray) (j : Nat) (hj : j < s.size) : at_ (subj filter s) j = sub filter (at_ s j) := by
  have h : j < s.data.toList.length := by rw [K.bsize]; exact hj
  unfold at_
  rw [subj_data]
  simp [List.getD, List.getElem?_eq_getElem h]
theorem subj_no_slash {filter : Bool} {s : ByteArray} (j : Nat) (hj : j < (subj filter s).size) : (at_ (subj filter s) j).toNat ≠ 47 := by
  rw [subj_size] at hj
  rw [subj_at _ _ _ hj]
  rcases sub_cases filter (at_ s j) with ⟨h1, h2⟩ | ⟨_, _, _, h2⟩ | ⟨_, _, _, h2⟩ | ⟨h1, _, h2⟩
  · rw [h2]; decide
  · rw [h2]; decide
  · rw [h2]; decide
  · rw [h2]; exact h1

/-! ### the two laws' own facts -/
theorem sub_false_inj {s t : ByteArray} (hs : Plain s false) (ht : Plain t false) (h : subj false s = subj false t) : s = t := by
  rw [← back_subj hs, ← back_subj ht, h]
theorem plain_true {s : ByteArray} (hs : Plain s false) : Plain s true := by
  refine ⟨hs.1, fun k hk => ?_⟩
  rcases hs.2 k hk with h | h
  · left
    unfold good at h ⊢
    rcases h with h | h | h | h | h | ⟨h, _⟩
    · exact Or.inl h
    · exact Or.inr (Or.inl h)
    · exact Or.inr (Or.inr (Or.inl h))
    · exact Or.inr (Or.inr (Or.inr (Or.inl h)))
    · exact Or.inr (Or.inr (Or.inr (Or.inr (Or.inl h))))
    · cases h
  · exact Or.inr h
theorem subj_same {s : ByteArray} (hs : Plain s false) : subj true s = subj false s := by
  apply ba_ext
  rw [subj_data, subj_data]
  apply List.map_congr_left
  intro c hc
  obtain ⟨k, hk, rfl⟩ := mem_at hc
  rcases hs.2 k hk with h | h
  · rcases good_ne h with g | ⟨g, _⟩
    · rw [sub_other g.2.2.2.2.2.2.2.2 g.2.1, sub_other g.2.2.2.2.2.2.2.2 g.2.1]
    · cases g
  · rw [sub_slash h.1, sub_slash h.1]
end Go.Proofs.YtjaodjeommkjgaaDoor
