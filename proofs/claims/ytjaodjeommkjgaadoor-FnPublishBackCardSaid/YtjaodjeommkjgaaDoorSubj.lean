/-
  impl.TopicToSubject and spec.TopicToSubject on a plain topic or filter: both give the text whose slashes are points (in a filter: * for +, > for #).
-/
import Derived.Test.YtjaodjeommkjgaaDoorConv
import Derived.Test.YtjaodjeommkjgaaDoorLen
namespace Go.Proofs.YtjaodjeommkjgaaDoor
open Go.RowKit
open K (Lies)

def subj (filter : Bool) (s : ByteArray) : ByteArray := ⟨(s.data.toList.map (sub filter)).toArray⟩
theorem subj_data (filter : Bool) (s : ByteArray) : (subj filter s).data.toList = s.data.toList.map (sub filter) := by simp [subj]
theorem subj_size (filter : Bool) (s : ByteArray) : (subj filter s).size = s.size := by rw [← K.bsize, subj_data, List.length_map, K.bsize]

theorem str_map (l : List UInt8) : strOfNums (l.map fun b => (b.toNat : Int)) = ⟨l.toArray⟩ := by
  unfold strOfNums
  congr 2
  rw [List.map_map]
  conv => rhs; rw [← List.map_id l]
  apply List.map_congr_left
  intro b _
  simp

theorem conv_slice (w : World) (rb ro n rc : Nat) (l : List UInt8) (hl : l.length = n) (h : BytesAt w rb ro l) : (convert 37 9 (.slice (some ⟨rb, ro, none⟩) n rc)).run Tryd.prog w = .ok (.string ⟨l.toArray⟩) w := by
  rw [← str_map]
  refine run_convert_bytes_arg w 37 5 underlyings.2.1 underlyings.2.2 rb ro n rc (l.map fun b => (b.toNat : Int)) (by simp [hl]) (fun i hi => ?_) 9 underlyings.1
  rw [h i (by omega)]
  simp [bv, List.getD, List.getElem?_eq_getElem (show i < l.length by omega)]

set_option maxRecDepth 100000 in
theorem conv31 (s : ByteArray) (ab ao n cap : Nat) (W : World) (hs : Plain s true) (hl : s.size = n) (hn : n ≤ 100000) (hnc : n ≤ cap) (hab : ab < W.heap.size) (hB : BytesAt W ab ao s.data.toList) :
    Calls Tryd.prog 31 #[.slice (some ⟨ab, ao, none⟩) n cap] W (ConvPost s true n W) := by
  have h := conv_any s true ab ao n cap W hs hl hn hnc hab hB
  go_enter Tryd.func31, Tryd.ntmps31
  go_wp2_with fail
  refine h.mono ?_
  rintro e w' ⟨rb, ro, rc, rfl, h1, h2, h3⟩
  have H := Lib.hid (And.intro h1 (And.intro h2 h3))
  clear h1 h2 h3 hB hs h
  go_wp2_with fail
  go_ret2
  exact ⟨rb, ro, rc, rfl, H.out⟩
set_option maxRecDepth 100000 in
theorem conv32 (s : ByteArray) (ab ao n cap : Nat) (W : World) (hs : Plain s false) (hl : s.size = n) (hn : n ≤ 100000) (hnc : n ≤ cap) (hab : ab < W.heap.size) (hB : BytesAt W ab ao s.data.toList) :
    Calls Tryd.prog 32 #[.slice (some ⟨ab, ao, none⟩) n cap] W (ConvPost s false n W) := by
  have h := conv_any s false ab ao n cap W hs hl hn hnc hab hB
  go_enter Tryd.func32, Tryd.ntmps32
  go_wp2_with fail
  refine h.mono ?_
  rintro e w' ⟨rb, ro, rc, rfl, h1, h2, h3⟩
  have H := Lib.hid (And.intro h1 (And.intro h2 h3))
  clear h1 h2 h3 hB hs h
  go_wp2_with fail
  go_ret2
  exact ⟨rb, ro, rc, rfl, H.out⟩
set_option maxRecDepth 100000 in
theorem conv25 (s : ByteArray) (ab ao n cap : Nat) (W : World) (hs : Plain s true) (hl : s.size = n) (hn : n ≤ 100000) (hnc : n ≤ cap) (hab : ab < W.heap.size) (hB : BytesAt W ab ao s.data.toList) :
    Calls Tryd.prog 25 #[.slice (some ⟨ab, ao, none⟩) n cap] W (ConvPost s true n W) := by
  have h := conv31 s ab ao n cap W hs hl hn hnc hab hB
  go_enter Tryd.func25, Tryd.ntmps25
  go_wp2_with fail
  refine h.mono ?_
  rintro e w' ⟨rb, ro, rc, rfl, h1, h2, h3⟩
  have H := Lib.hid (And.intro h1 (And.intro h2 h3))
  clear h1 h2 h3 hB hs h
  go_wp2_with fail
  go_ret2
  exact ⟨rb, ro, rc, rfl, H.out⟩
set_option maxRecDepth 100000 in
theorem conv26 (s : ByteArray) (ab ao n cap : Nat) (W : World) (hs : Plain s false) (hl : s.size = n) (hn : n ≤ 100000) (hnc : n ≤ cap) (hab : ab < W.heap.size) (hB : BytesAt W ab ao s.data.toList) :
    Calls Tryd.prog 26 #[.slice (some ⟨ab, ao, none⟩) n cap] W (ConvPost s false n W) := by
  have h := conv32 s ab ao n cap W hs hl hn hnc hab hB
  go_enter Tryd.func26, Tryd.ntmps26
  go_wp2_with fail
  refine h.mono ?_
  rintro e w' ⟨rb, ro, rc, rfl, h1, h2, h3⟩
  have H := Lib.hid (And.intro h1 (And.intro h2 h3))
  clear h1 h2 h3 hB hs h
  go_wp2_with fail
  go_ret2
  exact ⟨rb, ro, rc, rfl, H.out⟩

def SubjPost (s : ByteArray) (filter : Bool) (W : World) (e : Ending) (w' : World) : Prop := e = .returned (.tuple #[.string (subj filter s), .bool true]) ∧ Below W.heap.size W w'

theorem bytesAt_world (w : World) (s : ByteArray) : BytesAt (Lib.bytesWorld w 5 s) w.heap.size 0 s.data.toList := by
  intro j hj
  rw [Nat.zero_add]
  exact Lib.bytesWorld_cell w 5 s j (by rw [← K.bsize]; exact hj)

set_option maxRecDepth 100000 in
theorem topicToSubject_any (s : ByteArray) (filter : Bool) (W : World) (hs : Plain s filter) (hn : s.size ≤ 100000) :
    Calls Tryd.prog 18 #[.string s, .bool filter] W (SubjPost s filter W) := by
  have hcv := conv_bytes W s
  have hB := bytesAt_world W s
  have hsz := Lib.bytesWorld_size W 5 s
  have hbb := K.bytesWorld_below W 5 s
  have hcap : s.size ≤ grownCap W s.size 0 5 := grownCap_ge _ _ _ _
  have HP := Lib.hid hs
  clear hs
  cases filter with
  | true =>
    go_enter Tryd.func18, Tryd.ntmps18
    go_wp2_with fail
    refine (conv25 s W.heap.size 0 _ _ _ HP.out rfl hn hcap (by rw [hsz]; omega) hB).mono ?_
    rintro e w' ⟨rb, ro, rc, rfl, h1, h2, h3⟩
    have hc2 := conv_slice w' rb ro s.size rc _ (by rw [List.length_map, K.bsize]) h1
    have H := Lib.hid (hbb.trans (h3.mono (by omega)))
    clear h1 h2 h3 hB hsz hbb hcap
    go_wp2_with fail
    go_ret2
    exact ⟨rfl, H.out⟩
  | false =>
    go_enter Tryd.func18, Tryd.ntmps18
    go_wp2_with fail
    refine (conv26 s W.heap.size 0 _ _ _ HP.out rfl hn hcap (by rw [hsz]; omega) hB).mono ?_
    rintro e w' ⟨rb, ro, rc, rfl, h1, h2, h3⟩
    have hc2 := conv_slice w' rb ro s.size rc _ (by rw [List.length_map, K.bsize]) h1
    have H := Lib.hid (hbb.trans (h3.mono (by omega)))
    clear h1 h2 h3 hB hsz hbb hcap
    go_wp2_with fail
    go_ret2
    exact ⟨rfl, H.out⟩

/-! ### the specification's -/
theorem sub_cases (filter : Bool) (c : UInt8) : (c.toNat = 47 ∧ sub filter c = 46) ∨ (c.toNat ≠ 47 ∧ filter = true ∧ c.toNat = 43 ∧ sub filter c = 42) ∨ (c.toNat ≠ 47 ∧ filter = true ∧ c.toNat = 35 ∧ sub filter c = 62) ∨
    (c.toNat ≠ 47 ∧ (filter = true → c.toNat ≠ 43 ∧ c.toNat ≠ 35) ∧ sub filter c = c) := by
  by_cases h : c.toNat = 47
  · exact Or.inl ⟨h, sub_slash h⟩
  · by_cases hf : filter = true
    · subst hf
      by_cases h2 : c.toNat = 43
      · exact Or.inr (Or.inl ⟨h, rfl, h2, sub_plus h2⟩)
      · by_cases h3 : c.toNat = 35
        · exact Or.inr (Or.inr (Or.inl ⟨h, rfl, h3, sub_hash h3⟩))
        · refine Or.inr (Or.inr (Or.inr ⟨h, fun _ => ⟨h2, h3⟩, ?_⟩))
          unfold sub
          have n1 : c ≠ 47 := fun e => h (by rw [e]; rfl)
          have n2 : c ≠ 43 := fun e => h2 (by rw [e]; rfl)
          have n3 : c ≠ 35 := fun e => h3 (by rw [e]; rfl)
          simp [n1, n2, n3]
    · refine Or.inr (Or.inr (Or.inr ⟨h, fun e => absurd e hf, ?_⟩))
      unfold sub
      have n1 : c ≠ 47 := fun e => h (by rw [e]; rfl)
      simp [n1, hf]

theorem one_step (s : ByteArray) (filter : Bool) (k : Nat) (hk : k < s.size) (acc x : ByteArray) (ha : acc.data.toList = (s.data.toList.take k).map (sub filter)) (hx : x.data.toList = [sub filter (at_ s k)]) :
    (acc ++ x).data.toList = (s.data.toList.take (k + 1)).map (sub filter) := by
  have hl : k < s.data.toList.length := by rw [K.bsize]; exact hk
  rw [K.bapp, ha, hx, List.take_succ_eq_append_getElem hl, List.map_append]
  simp [at_, List.getD, List.getElem?_eq_getElem hl]
theorem ext_one (s : ByteArray) (k : Nat) (hk : k < s.size) : (s.extract k (k + 1)).data.toList = [at_ s k] := by
  have hl : k < s.data.toList.length := by rw [K.bsize]; exact hk
  rw [Lib.extract_data, List.drop_eq_getElem_cons hl]
  simp [at_, List.getD, List.getElem?_eq_getElem hl]
theorem ba_ext {a b : ByteArray} (h : a.data.toList = b.data.toList) : a = b := by
  cases a; cases b; congr; exact Array.toList_inj.1 h

def SpecPost (s : ByteArray) (filter : Bool) (W : World) (e : Ending) (w' : World) : Prop := e = .returned (.tuple #[.string (subj filter s), .bool true]) ∧ W = w'

set_option maxRecDepth 100000 in
theorem spec_any (s : ByteArray) (filter : Bool) (w : World) (hs : s.size ≤ 100000) : Calls Tryd.prog 19 #[.string s, .bool filter] w (SpecPost s filter w) := by
  go_enter Tryd.func19, Tryd.ntmps19
  go_wp2_with fail
  go_loopg [4, 6] s.size (fun gk a i wr => ∃ (k : Nat) (acc : ByteArray), gk + k = s.size ∧ w = wr ∧ a = .string acc ∧ i = .int .i64 k ∧ acc.size = k ∧ acc.data.toList = (s.data.toList.take k).map (sub filter))
  case atStart => exact ⟨0, ByteArray.empty, by omega, rfl, rfl, rfl, rfl, by simp⟩
  case round =>
    obtain ⟨k, acc, hk1, rfl, rfl, rfl, hsz, hacc⟩ := hrel
    have HK := Lib.hid hk1
    have HA := Lib.hid hacc
    have hk : k ≤ s.size := by omega
    have hsz1 : acc.size ≤ 100000 := by omega
    have HZ := Lib.hid hsz
    clear hk1 hacc hsz
    by_cases hlt : k < s.size
    · have hat := at_get s k hlt
      have hex := ext_one s k hlt
      have hez : (s.extract k (k + 1)).size = 1 := by rw [← K.bsize, hex]; rfl
      obtain ⟨b, hb⟩ : ∃ b, b = at_ s k := ⟨_, rfl⟩
      rw [← hb] at hat
      have HB := Lib.hid hb
      have HX := Lib.hid hex
      have hb8 := b.toNat_lt
      have hcs := sub_cases filter b
      clear hb hex
      rcases hcs with ⟨h1, h2⟩ | ⟨h0, h1, h2, h3⟩ | ⟨h0, h1, h2, h3⟩ | ⟨h0, h1, h3⟩
      · have H := Lib.hid h2
        have q1 : ((b.toNat : Int) == 47) = true := by simp; omega
        clear h2
        go_wp2_with fail
        go_roundg (s.size - (k + 1))
        case measure => have := HK.out; omega
        case rel => exact ⟨k + 1, _, by omega, rfl, rfl, by go_num, by rw [ByteArray.size_append, HZ.out]; rfl, one_step s filter k hlt _ _ HA.out (by rw [← HB.out, H.out])⟩
      · subst h1
        have H := Lib.hid h3
        have q1 : ((b.toNat : Int) == 47) = false := by simp; omega
        have q2 : ((b.toNat : Int) == 43) = true := by simp; omega
        clear h3
        go_wp2_with fail
        go_roundg (s.size - (k + 1))
        case measure => have := HK.out; omega
        case rel => exact ⟨k + 1, _, by omega, rfl, rfl, by go_num, by rw [ByteArray.size_append, HZ.out]; rfl, one_step s true k hlt _ _ HA.out (by rw [← HB.out, H.out])⟩
      · subst h1
        have H := Lib.hid h3
        have q1 : ((b.toNat : Int) == 47) = false := by simp; omega
        have q2 : ((b.toNat : Int) == 43) = false := by simp; omega
        have q3 : ((b.toNat : Int) == 35) = true := by simp; omega
        clear h3
        go_wp2_with fail
        go_roundg (s.size - (k + 1))
        case measure => have := HK.out; omega
        case rel => exact ⟨k + 1, _, by omega, rfl, rfl, by go_num, by rw [ByteArray.size_append, HZ.out]; rfl, one_step s true k hlt _ _ HA.out (by rw [← HB.out, H.out])⟩
      · have H := Lib.hid h3
        have q1 : ((b.toNat : Int) == 47) = false := by simp; omega
        have p1 : (k : Int) + 1 ≤ (s.size : Int) := by omega
        have p2 : (0 : Int) ≤ (k : Int) + 1 := by omega
        have p3 : (k : Int) ≤ (k : Int) + 1 := by omega
        have p4 : ((k : Int) + 1).toNat = k + 1 := by omega
        clear h3
        cases filter with
        | true =>
          have q2 : ((b.toNat : Int) == 43) = false := by have := h1 rfl; simp; omega
          have q3 : ((b.toNat : Int) == 35) = false := by have := h1 rfl; simp; omega
          clear h1
          go_wp2_with fail
          go_roundg (s.size - (k + 1))
          case measure => have := HK.out; omega
          case rel => exact ⟨k + 1, _, by omega, rfl, rfl, by go_num, by rw [ByteArray.size_append, HZ.out, hez], one_step s true k hlt _ _ HA.out (by rw [HX.out, ← HB.out, H.out])⟩
        | false =>
          clear h1
          go_wp2_with fail
          go_roundg (s.size - (k + 1))
          case measure => have := HK.out; omega
          case rel => exact ⟨k + 1, _, by omega, rfl, rfl, by go_num, by rw [ByteArray.size_append, HZ.out, hez], one_step s false k hlt _ _ HA.out (by rw [HX.out, ← HB.out, H.out])⟩
    · obtain rfl : k = s.size := by omega
      go_wp2_with fail
      go_ret2
      have e : acc = subj filter s := ba_ext (by rw [HA.out, subj_data, List.take_of_length_le (by rw [K.bsize]; omega)])
      rw [e]
      exact ⟨rfl, rfl⟩
end Go.Proofs.YtjaodjeommkjgaaDoor
