/-
  Texts joined; texts as bytes.
-/
import Derived.Test.YtkkedekgniffoaaDoorFs
import Derived.Test.YtkkedekgniffoaaDoorBs
namespace Go.Proofs.YtkkedekgniffoaaDoor
open Go.RowKit
open K (Lies strs)
/-! ## laws.joined -/
def joinB (ss : List ByteArray) : ByteArray := ⟨(ss.flatMap fun s => s.data.toList).toArray⟩
theorem joinB_data (ss : List ByteArray) : (joinB ss).data.toList = ss.flatMap fun s => s.data.toList := rfl
theorem ba_of {a b : ByteArray} (h : a.data.toList = b.data.toList) : a = b := by
  cases a; cases b; simp at h; simp [h]
theorem joinB_step (ss : List ByteArray) (k : Nat) (h : k < ss.length) : joinB (ss.take (k + 1)) = joinB (ss.take k) ++ ss.getD k ByteArray.empty := by
  apply ba_of
  rw [List.take_succ_eq_append_getElem h, joinB_data, List.flatMap_append, K.bapp, joinB_data]
  simp [List.getD, List.getElem?_eq_getElem h]
theorem joinB_le (ss : List ByteArray) (k : Nat) : (joinB (ss.take k)).size ≤ (joinB ss).size := by
  have h : (joinB ss).data.toList = (joinB (ss.take k)).data.toList ++ (joinB (ss.drop k)).data.toList := by
    simp only [joinB_data]
    rw [← List.flatMap_append, List.take_append_drop]
  have h2 := congrArg List.length h
  rw [List.length_append, K.bsize, K.bsize] at h2
  omega
def JoinPost (ss : List ByteArray) (w : World) (e : Ending) (w' : World) : Prop := e = .returned (.string (joinB ss)) ∧ w' = w
set_option maxRecDepth 100000 in
theorem joined_any (A : Option Addr) (n cap : Nat) (ss : List ByteArray) (w : World) (hA : Lies w A n (strs ss)) (hn : ss.length = n) (hc : n ≤ 2000000) (hj : (joinB ss).size ≤ 2000000) : Calls Tryd.prog 11 #[.slice A n cap] w (JoinPost ss w) := by
  have HA := Lib.hid hA
  have HN := Lib.hid hn
  have HJ := Lib.hid hj
  clear hA hn hj
  go_enter Tryd.func11, Tryd.ntmps11
  go_wp2_with fail
  go_loop [3, 4] (fun s i => ∃ k : Nat, k ≤ n ∧ i = .int .i64 k ∧ s = .string (joinB (ss.take k))) (fun _ i => n - (intOf i).toNat)
  case atStart => exact ⟨0, by omega, rfl, rfl⟩
  case round =>
    obtain ⟨k, hk, rfl, rfl⟩ := hrel
    by_cases hlt : k < n
    · obtain ⟨ab, ao, rfl, hab, hcs⟩ := HA.out (by omega)
      have c0 := hcs k hlt
      have hstep := joinB_step ss k (by rw [HN.out]; exact hlt)
      have hle := joinB_le ss (k + 1)
      unfold strs at c0
      generalize ss.getD k ByteArray.empty = t at c0 hstep
      have hsz : (joinB (ss.take k)).size + t.size ≤ 2000000 := by
        rw [hstep] at hle
        have := HJ.out
        simp at hle
        omega
      have HST := Lib.hid hstep
      clear hstep hle hcs
      generalize joinB (ss.take k) = u at hsz HST ⊢
      go_wp2_with fail
      go_round
      case rel => exact ⟨k + 1, by omega, by go_num, by rw [HST.out]⟩
      case measure => simp [intOf]; omega
    · obtain rfl : k = n := by omega
      have e : ss.take k = ss := List.take_of_length_le (by rw [HN.out]; exact Nat.le_refl _)
      rw [e]
      clear e
      go_wp2_with fail
      go_ret
      exact ⟨rfl, rfl⟩
/-! ## impl.bytesOf -/
def pcV (p : Pc) : Value := .slice (some ⟨p.g, 0, none⟩) p.B.length p.c
structure BoRel (ss : List ByteArray) (w : World) (k : Nat) (v : Value) (F : List Pc) (wr : World) : Prop where
  own : wr.ownsRow w.heap.size 50 1 v k (F.map pcV)
  bl : Below w.heap.size w wr
  len : F.length = k
  fb : F.map Pc.B = (ss.take k).map (fun s => s.data.toList)
  ok : ∀ p ∈ F, p.o = 0 ∧ PcOk wr p ∧ w.heap.size ≤ p.g
  so : (F.map Pc.g).Pairwise (· < ·)
def BytesOfPost (ss : List ByteArray) (w : World) (e : Ending) (w' : World) : Prop := ∃ v F, e = .returned v ∧ BoRel ss w ss.length v F w'
theorem BoRel.step {ss : List ByteArray} {w wr w3 : World} {k g3 cp3 : Nat} {v : Value} {F : List Pc} {s : ByteArray} (h : BoRel ss w k v F wr) (hk : k < ss.length) (hs : ss.getD k ByteArray.empty = s) (hsz : s.size ≤ 1000000)
    (hown : w3.ownsRow w.heap.size 50 1 (.slice (some ⟨g3, 0, none⟩) (k + 1) cp3) (k + 1) (F.map pcV ++ [.slice (some ⟨wr.heap.size, 0, none⟩) s.size (grownCap wr s.size 0 5)]))
    (hgrow : ((Lib.bytesWorld wr 5 s).alloc (.cells #[.slice (some ⟨wr.heap.size, 0, none⟩) s.size (grownCap wr s.size 0 5)] 50)).grownBy w3 v.ownBlock) :
    BoRel ss w (k + 1) (.slice (some ⟨g3, 0, none⟩) (k + 1) cp3) (F ++ [⟨wr.heap.size, s.data.toList, 0, grownCap wr s.size 0 5⟩]) w3 := by
  have hwl := h.bl.size
  have hb1 := Lib.bytesWorld_below wr 5 s
  have hs1 : (Lib.bytesWorld wr 5 s).heap.size = wr.heap.size + 1 := Lib.bytesWorld_size wr 5 s
  have hs2 : ((Lib.bytesWorld wr 5 s).alloc (.cells #[.slice (some ⟨wr.heap.size, 0, none⟩) s.size (grownCap wr s.size 0 5)] 50)).heap.size = wr.heap.size + 2 := by simp [hs1]
  have hfar : ∀ q B, ByteRow wr q B → ByteRow w3 q B := fun q B hq => by
    have hql := hq.lt
    have e1 : (Lib.bytesWorld wr 5 s).heap[q]? = wr.heap[q]? := hb1.block q hql
    refine hq.at ((hgrow.block q (by rw [hs2]; omega) (fun e => ?_)).trans ((Below.heap_alloc _ _ _ (by rw [hs1]; omega)).trans e1))
    obtain ⟨_, cur, hc⟩ := own_blk h.own e.symm
    exact hq.ne hc (by decide) rfl
  have hnew : ByteRow w3 wr.heap.size s.data.toList := by
    refine (ByteRow.new wr s).at ((hgrow.block _ (by rw [hs2]; omega) (fun e => ?_)).trans (Below.heap_alloc _ _ _ (by rw [hs1]; omega)))
    have := own_lt h.own e.symm
    omega
  refine ⟨?_, ?_, by rw [List.length_append, h.len]; rfl, ?_, ?_, ?_⟩
  · rw [List.map_append]
    have : pcV ⟨wr.heap.size, s.data.toList, 0, grownCap wr s.size 0 5⟩ = .slice (some ⟨wr.heap.size, 0, none⟩) s.size (grownCap wr s.size 0 5) := by unfold pcV; simp only [K.bsize]
    rw [List.map_cons, List.map_nil, this]; exact hown
  · exact ((h.bl.trans (hb1.mono hwl)).alloc (by rw [hs1]; omega) _).grown hgrow (by rw [hs2]; omega) (fun q hq => (own_blk h.own hq).1)
  · rw [List.map_append, h.fb, List.take_succ_eq_append_getElem hk, List.map_append]
    have : ss[k] = s := by rw [← hs, List.getD, List.getElem?_eq_getElem hk]; rfl
    rw [this]; rfl
  · intro p hp
    rcases List.mem_append.mp hp with hp | hp
    · obtain ⟨h1, h2, h3⟩ := h.ok p hp
      exact ⟨h1, ⟨hfar _ _ h2.1, h2.2⟩, h3⟩
    · obtain rfl : p = ⟨wr.heap.size, s.data.toList, 0, grownCap wr s.size 0 5⟩ := by simpa using hp
      refine ⟨rfl, ⟨hnew, Nat.zero_le _, ?_, by simp only [K.bsize]; exact hsz⟩, hwl⟩
      unfold Pc.len
      simp only [K.bsize]
      have := grownCap_ge wr s.size 0 5
      omega
  · rw [List.map_append, List.pairwise_append]
    refine ⟨h.so, by simp, fun a ha b hb => ?_⟩
    obtain ⟨p, hp, rfl⟩ := List.mem_map.1 ha
    obtain rfl : b = wr.heap.size := by simpa using hb
    exact (h.ok p hp).2.1.1.lt

set_option maxHeartbeats 2000000 in
set_option maxRecDepth 100000 in
theorem bytesOf_any (A : Option Addr) (n cap : Nat) (ss : List ByteArray) (w : World) (hA : Lies w A n (strs ss)) (hn : ss.length = n) (hc : n ≤ 1000) (hj : ∀ s ∈ ss, s.size ≤ 1000000) : Calls Tryd.prog 19 #[.slice A n cap] w (BytesOfPost ss w) := by
  obtain ⟨i0, hi0, hz0, hz1, hz2⟩ := info_parts info50
  have HI := Lib.hid (And.intro hi0 (And.intro hz0 (And.intro hz1 hz2)))
  have HA := Lib.hid hA
  have HN := Lib.hid hn
  have HJ := Lib.hid hj
  clear hA hn hj hi0 hz0 hz1 hz2
  go_enter Tryd.func19, Tryd.ntmps19
  go_wp2_with fail
  go_loopw [3, 4] (fun v i wr => ∃ k : Nat, k ≤ n ∧ i = .int .i64 k ∧ ∃ F, Hid (BoRel ss w k v F wr)) (fun _ i _ => n - (intOf i).toNat)
  case atStart => exact ⟨0, by omega, rfl, [], Lib.hid ⟨World.ownsRow_nil _ _ _ _, Below.refl _ _, rfl, rfl, (fun p hp => by cases hp), List.Pairwise.nil⟩⟩
  case round =>
    obtain ⟨k, hk, rfl, F, HR⟩ := hrel
    by_cases hlt : k < n
    · obtain ⟨ab, ao, rfl, hab, hcs⟩ := HA.out (by omega)
      have c0 := (HR.out.bl.cell (p := ⟨ab, ao + k, none⟩) hab).trans (hcs k hlt)
      have hm : ss.getD k ByteArray.empty ∈ ss := by rw [List.getD, List.getElem?_eq_getElem (by rw [HN.out]; exact hlt)]; exact List.getElem_mem _
      have hsz := HJ.out _ hm
      clear hcs hm
      unfold strs at c0
      obtain ⟨s, hs⟩ : ∃ s, ss.getD k ByteArray.empty = s := ⟨_, rfl⟩
      rw [hs] at c0 hsz
      have HS := Lib.hid hs
      clear hs
      have hcv := conv50 wr s
      have hs1 : (Lib.bytesWorld wr 5 s).heap.size = wr.heap.size + 1 := Lib.bytesWorld_size wr 5 s
      have hcap : s.size ≤ grownCap wr s.size 0 5 := grownCap_ge wr s.size 0 5
      have hob : (Lib.bytesWorld wr 5 s).ownsRow w.heap.size 50 1 u3 k (F.map pcV) := own_move HR.out.own fun g hg => (Lib.bytesWorld_below wr 5 s).block g (own_lt HR.out.own hg)
      have HO := Lib.hid hob
      have HS1 := Lib.hid hs1
      clear hob hs1
      go_wp2_with (at_builtin; refine Hid.out ?_)
      refine Lib.hid ?_
      refine wpList_append_lies _ rfl _ _ _ rfl w.heap.size 50 i0 _ 1 24 Tryd.underlying43 HI.out.1 HI.out.2.1 HI.out.2.2.1 HI.out.2.2.2 rfl (by omega) u3 k (F.map pcV) rfl (HO.out.alloc _) ⟨(Lib.bytesWorld wr 5 s).heap.size, 0, none⟩ 1 1 [.slice (some ⟨wr.heap.size, 0, none⟩) s.size (grownCap wr s.size 0 5)] rfl rfl (World.news_of_block (cs := #[.slice (some ⟨wr.heap.size, 0, none⟩) s.size (grownCap wr s.size 0 5)]) (t := 50) (fr := (0, 0)) (K.heap_alloc_at _ _)) (by simp [Value.oneCell']) (by omega) (by unfold maxLen; omega) (by omega) (by have := HR.out.bl.size; simp; rw [HS1.out]; omega) (wr.heap.size + 2) (by simp; rw [HS1.out]) ?_
      intro g3 cp3 w3 hown3 hgrow3 hat3 hlt3
      have HB := Lib.hid (HR.out.step (by rw [HN.out]; exact hlt) HS.out hsz hown3 hgrow3)
      clear hown3 hgrow3 hat3 hcv
      go_wp2_with fail
      go_roundw
      case rel => exact ⟨k + 1, by omega, by go_num, _, Lib.hid HB.out⟩
      case measure => simp [intOf]; omega
    · obtain rfl : k = n := by omega
      go_wp2_with fail
      go_ret
      exact ⟨_, F, rfl, by rw [HN.out]; exact HR.out⟩
end Go.Proofs.YtkkedekgniffoaaDoor
