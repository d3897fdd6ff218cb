/-
  The reference's Mapped: its frame, and its end. Printed by wip/py/gen_md.py.
  The reference's Mapped: the loop over the pieces. Printed by wip/py/gen_md.py.
  The reference's Mapped: its subject. Printed by wip/py/gen_md.py.
-/
import Derived.Test.YtocfcajafkkhdaaDoorZMq
/- Ma -/
section
namespace Go.Proofs.YtocfcajafkkhdaaDoor
open Go.RowKit

set_option maxRecDepth 1000000 in
/-- the frame of Mapped between its loops -/
def F10 (A0 : Option Addr) (n0 d0 : Nat) (r : Bool) (A2 : Option Addr) (n2 d2 : Nat) (A3 : Option Addr) (n3 d3 : Nat) (A4 : Option Addr) (n4 d4 : Nat) (miss : Int) (s12 s13 s14 s15 : ByteArray) (k : Int) (x : Nat → Value) : List Value := [.slice A0 n0 d0, .bool r, .slice A2 n2 d2, .slice A3 n3 d3, .slice A4 n4 d4, .int .i64 miss, x 6, x 7, x 8, x 9, x 10, x 11, .string s12, .string s13, .string s14, .string s15, .int .i64 k, .bool true, .int .i64 n3, x 19, x 20, x 21, x 22, x 23, x 24, x 25, x 26, x 27, x 28, x 29, x 30, x 31, x 32, x 33, x 34, x 35, x 36, x 37, x 38, x 39, x 40, x 41, x 42, x 43, x 44, x 45, x 46, x 47, x 48, x 49, x 50, x 51, x 52, x 53, x 54, x 55, x 56, x 57, x 58, x 59, x 60, x 61, x 62, x 63, x 64, x 65, x 66, x 67, x 68, x 69, x 70, x 71, x 72, x 73, x 74, x 75, x 76, x 77, x 78, x 79, x 80, x 81, x 82, x 83, x 84, x 85, x 86, x 87, x 88, x 89, x 90, x 91, x 92, x 93, x 94, x 95, x 96, x 97, x 98, x 99, x 100, x 101, x 102, x 103, x 104, x 105, x 106, x 107, x 108, x 109, x 110, x 111, x 112, x 113, x 114, x 115, x 116, x 117, x 118, x 119, x 120, x 121, x 122, x 123, x 124, x 125, x 126, x 127, x 128, x 129, x 130, x 131, x 132, x 133, x 134, x 135, x 136, x 137, x 138, x 139, x 140, x 141, x 142, x 143, x 144, x 145, x 146, x 147, x 148, x 149, x 150, x 151, x 152, x 153, x 154, x 155, x 156, x 157, x 158, x 159, x 160, x 161, x 162, x 163, x 164, x 165, x 166, x 167, x 168, x 169, x 170, x 171, x 172, x 173, x 174, x 175, x 176, x 177, x 178, x 179, x 180, x 181]
theorem back10 {A0 : Option Addr} {n0 d0 : Nat} {r : Bool} {A2 : Option Addr} {n2 d2 : Nat} {A3 : Option Addr} {n3 d3 : Nat} {A4 : Option Addr} {n4 d4 : Nat} {miss : Int} {s12 s13 s14 s15 : ByteArray} {k : Int} {l : List Value} (h : F10 A0 n0 d0 r A2 n2 d2 A3 n3 d3 A4 n4 d4 miss s12 s13 s14 s15 k (fun i => l.getD i undef) = l) : ∃ x, (⟨l.toArray, []⟩ : Act) = ⟨(F10 A0 n0 d0 r A2 n2 d2 A3 n3 d3 A4 n4 d4 miss s12 s13 s14 s15 k x).toArray, []⟩ := ⟨_, by rw [h]⟩
noncomputable def restB : Code := c2 (c2 (c2 (c2 (Tryd.f10.body.getD .skip))))
noncomputable def restC : Code := c2 (c2 (c2 (c2 (c2 (c2 (Tryd.f10.body.getD .skip))))))
noncomputable def restD : Code := c2 (c2 (c2 (c2 (c2 (c2 (c2 (Tryd.f10.body.getD .skip)))))))
noncomputable def restE : Code := c2 (c2 (c2 (c2 (c2 (c2 (c2 (c2 (Tryd.f10.body.getD .skip))))))))
noncomputable def restG : Code := c2 (c2 (c2 (c2 (c2 (c2 (c2 (c2 (c2 (Tryd.f10.body.getD .skip)))))))))
/-- pieces in a slice -/
def PsAt (w : World) (A : Option Addr) (l : List Pi) : Prop :=
  0 < l.length → ∃ ab ao, A = some ⟨ab, ao, none⟩ ∧ ab < w.heap.size ∧ ∀ j (hj : j < l.length), w.cell? ⟨ab, ao + j * 5, none⟩ = some (.int .i64 l[j].fn) ∧ w.cell? ⟨ab, ao + j * 5 + 1, none⟩ = some (.int .i64 l[j].at_) ∧
    w.cell? ⟨ab, ao + j * 5 + 2, none⟩ = some (.int .i64 l[j].n) ∧ w.cell? ⟨ab, ao + j * 5 + 3, none⟩ = some (.string l[j].word) ∧ ∃ B d, w.cell? ⟨ab, ao + j * 5 + 4, none⟩ = some (.slice B l[j].all.length d) ∧ K.Lies w B l[j].all.length (K.nums .i64 l[j].all)
theorem PsAt.below {w w' : World} {A : Option Addr} {l : List Pi} (h : PsAt w A l) (hb : Below w.heap.size w w') : PsAt w' A l := by
  intro h0
  obtain ⟨ab, ao, e, hlt, hc⟩ := h h0
  have hx : ∀ o, w'.cell? ⟨ab, o, none⟩ = w.cell? ⟨ab, o, none⟩ := fun o => hb.cell (p := ⟨ab, o, none⟩) hlt
  refine ⟨ab, ao, e, Nat.lt_of_lt_of_le hlt hb.size, fun j hj => ?_⟩
  obtain ⟨h1, h2, h3, h4, B, d, h5, h6⟩ := hc j hj
  rw [hx, hx, hx, hx, hx]
  exact ⟨h1, h2, h3, h4, B, d, h5, h6.below hb (Nat.le_refl _)⟩
abbrev svs (l : List (List UInt8)) (j : Nat) : Value := (l.map sv).getD j undef
/-- what the reference reads -/
structure Mc (w : World) (A0 A2 A3 A4 : Option Addr) (ws : List (List UInt8)) (dest : List Pi) (ss ts : List (List UInt8)) : Prop where
  l0 : K.Lies w A0 ws.length (svs ws)
  l2 : PsAt w A2 dest
  l3 : K.Lies w A3 ss.length (svs ss)
  l4 : K.Lies w A4 ts.length (svs ts)
theorem Mc.below {w w' : World} {A0 A2 A3 A4 : Option Addr} {ws : List (List UInt8)} {dest : List Pi} {ss ts : List (List UInt8)} (h : Mc w A0 A2 A3 A4 ws dest ss ts) (hb : Below w.heap.size w w') : Mc w' A0 A2 A3 A4 ws dest ss ts :=
  ⟨h.l0.below hb (Nat.le_refl _), h.l2.below hb, h.l3.below hb (Nat.le_refl _), h.l4.below hb (Nat.le_refl _)⟩
/-- all is few and short -/
structure Ml (ws : List (List UInt8)) (dest : List Pi) (ss ts : List (List UInt8)) : Prop where
  w0 : ws.length ≤ 8
  w1 : ∀ u ∈ ws, u.length ≤ 20
  d0 : dest.length ≤ 8
  d1 : ∀ p ∈ dest, p.Sm
  d2 : ∀ p ∈ dest, p.Wf
  s0 : ss.length ≤ 8
  s1 : ∀ u ∈ ss, u.length ≤ 20
  t0 : ts.length ≤ 4
  t1 : ∀ u ∈ ts, u.length ≤ 20
theorem lies_at {w : World} {A : Option Addr} {l : List (List UInt8)} (h : K.Lies w A l.length (svs l)) {j : Nat} (hj : j < l.length) : ∃ ab ao tb, A = some ⟨ab, ao, none⟩ ∧ w.cell? ⟨ab, ao + j, none⟩ = some (.string tb) ∧ tb.data.toList = l.getD j [] ∧ l.getD j [] ∈ l ∧ ab < w.heap.size := by
  obtain ⟨ab, ao, e, hab, hc⟩ := h (by omega)
  refine ⟨ab, ao, ⟨(l.getD j []).toArray⟩, e, ?_, rfl, by rw [List.getD, List.getElem?_eq_getElem hj]; exact List.getElem_mem hj, hab⟩
  rw [hc j hj]
  simp [svs, List.getD, hj, sv]
theorem six_results (fn : Func) (h : fn.results = #[.tmp 12, .tmp 13, .tmp 14, .tmp 15, .tmp 16, .tmp 17]) (tmps : Array Value) (P : Program) (w : World) :
    (results fn tmps).run P w = .ok (.tuple #[tmps.getD 12 undef, tmps.getD 13 undef, tmps.getD 14 undef, tmps.getD 15 undef, tmps.getD 16 undef, tmps.getD 17 undef]) w := by
  unfold results
  rw [h]
  simp
/-- what the tail's words are in the end of a text -/
def tailed (ts : List (List UInt8)) : List UInt8 := (ts.map fun t => 46 :: t).flatten
theorem tailed_take {ts : List (List UInt8)} {j : Nat} (h : j < ts.length) : tailed (ts.take (j + 1)) = tailed (ts.take j) ++ 46 :: ts.getD j [] := by
  unfold tailed
  rw [take_getD h, List.map_append, List.flatten_append]
  simp
theorem jn_tailed : ∀ (a : List (List UInt8)) (ts : List (List UInt8)), a ≠ [] → jn 46 (a ++ ts) = jn 46 a ++ tailed ts
  | a, [], _ => by simp [tailed]
  | a, t :: ts, h => by
    rw [show a ++ t :: ts = (a ++ [t]) ++ ts from by simp, jn_tailed (a ++ [t]) ts (by simp), jn_snoc, if_neg h]
    simp [tailed]
set_option maxHeartbeats 8000000 in
set_option maxRecDepth 1000000 in
theorem restG_any (w : World) (A0 : Option Addr) (n0 d0 : Nat) (r : Bool) (A2 : Option Addr) (n2 d2 : Nat) (A3 : Option Addr) (n3 d3 : Nat) (A4 : Option Addr) (n4 d4 : Nat) (miss : Int) (s12 s13 s14 s15 : ByteArray) (k : Int) (hk : k = 0 ∨ k = 2) (Post : Ending → World → Prop) (a : Act) (ha : ∃ x, a = ⟨(F10 A0 n0 d0 r A2 n2 d2 A3 n3 d3 A4 n4 d4 miss s12 s13 s14 s15 k x).toArray, []⟩)
    (hP : ∀ out : ByteArray, (k = 0 → out = s15) → Post (.returned (.tuple #[.string s12, .string s13, .string s14, .string out, .int .i64 k, .bool true])) w) :
    restG.wp Tryd.prog (bodyPost Tryd.prog Tryd.f10 Post) a w := by
  obtain ⟨x, rfl⟩ := ha
  have HP := Lib.hid hP
  clear hP
  conv => arg 2; whnf
  unfold F10
  rcases hk with rfl | rfl
  · go_wp2_with fail
    refine bodyPost_ret (six_results _ (by kernel_rfl) _ _ _) rfl ?_
    exact HP.out s15 (fun _ => rfl)
  · go_wp2_with fail
    refine bodyPost_ret (six_results _ (by kernel_rfl) _ _ _) rfl ?_
    exact HP.out ⟨#[]⟩ (fun h => by cases h)
set_option maxHeartbeats 8000000 in
set_option maxRecDepth 1000000 in
theorem restE_any (w : World) (A0 : Option Addr) (n0 d0 : Nat) (r : Bool) (A2 : Option Addr) (n2 d2 : Nat) (A3 : Option Addr) (n3 d3 : Nat) (A4 : Option Addr) (n4 d4 : Nat) (miss : Int) (s12 s13 s14 s15 : ByteArray) (k : Int) (ws : List (List UInt8)) (dest : List Pi) (ss ts : List (List UInt8)) (hC : Mc w A0 A2 A3 A4 ws dest ss ts) (hl : Ml ws dest ss ts) (h4 : n4 = ts.length) (hk : k = 0 ∨ k = 2) (hs13 : s13.size ≤ 10000) (hs15 : s15.size ≤ 10000) (Post : Ending → World → Prop) (a : Act) (ha : ∃ x, a = ⟨(F10 A0 n0 d0 r A2 n2 d2 A3 n3 d3 A4 n4 d4 miss s12 s13 s14 s15 k x).toArray, []⟩)
    (hP : ∀ to out : ByteArray, to.data.toList = s13.data.toList ++ (if r = true then [46, 62] else []) → (k = 0 → out.data.toList = s15.data.toList ++ (if r = true then tailed ts else [])) → Post (.returned (.tuple #[.string s12, .string to, .string s14, .string out, .int .i64 k, .bool true])) w) :
    restE.wp Tryd.prog (bodyPost Tryd.prog Tryd.f10 Post) a w := by
  obtain ⟨x, rfl⟩ := ha
  subst h4
  cases r with
  | false =>
    have HP := Lib.hid hP
    clear hP
    conv => arg 2; whnf
    unfold F10
    go_upto_region 43 with (fail)
    rename_i K9 hK9 K8 hK8
    have HK9 := Lib.hid hK9
    clear hK9
    go_wp2_with fail
    refine HK9.out _ _ ?_
    refine restG_any w A0 n0 d0 false A2 n2 d2 A3 n3 d3 A4 ts.length d4 miss s12 s13 s14 s15 k hk Post _ (back10 ?_) fun out ho => HP.out s13 out (by simp) (fun h => by rw [ho h]; simp)
    kernel_rfl
  | true =>
    have HP := Lib.hid hP
    have HC := Lib.hid (And.intro hC.l4 hl.t1)
    have ht4 := hl.t0
    have h2 : (⟨#[46, 62]⟩ : ByteArray).size = 2 := rfl
    have HZ := Lib.hid (And.intro h2 s46)
    clear hP hC hl h2
    conv => arg 2; whnf
    unfold F10
    go_upto_region 43 with (fail)
    rename_i K9 hK9 K8 hK8
    have HK9 := Lib.hid hK9
    clear hK9
    go_upto_region 46 with (fail)
    go_loop [15, 166] (fun tv i => ∃ (j : Nat) (u : ByteArray), j ≤ ts.length ∧ i = .int .i64 j ∧ tv = .string u ∧ u.size ≤ 10000 + 21 * j ∧ Hid (u.data.toList = s15.data.toList ++ tailed (ts.take j))) (fun _ i => ts.length - (intOf i).toNat)
    case atStart => exact ⟨0, s15, by omega, rfl, rfl, by omega, Lib.hid (by simp [tailed])⟩
    case round =>
      obtain ⟨j, u, hj, rfl, rfl, hus, HU⟩ := hrel
      by_cases hlt : j < ts.length
      · obtain ⟨ab, ao, tb, rfl, c1, htl, hmem, _⟩ := lies_at HC.out.1 hlt
        have hsz : tb.size ≤ 20 := by rw [← K.bsize, htl]; exact HC.out.2 _ hmem
        have HT := Lib.hid htl
        clear htl hmem
        go_wp2_with fail
        go_round
        case rel =>
          refine ⟨j + 1, u ++ (⟨#[46]⟩ ++ tb), by omega, by go_num, rfl, by rw [ByteArray.size_append, ByteArray.size_append, HZ.out.2]; omega, Lib.hid ?_⟩
          rw [K.bapp, K.bapp, HU.out, tailed_take hlt, HT.out]
          simp
        case measure => simp [intOf]; omega
      · obtain rfl : j = ts.length := by omega
        have hu := HU.out
        rw [List.take_length] at hu
        have HU2 := Lib.hid hu
        clear hu
        go_wp2_with fail
        refine HK9.out _ _ ?_
        refine restG_any w A0 n0 d0 true A2 n2 d2 A3 n3 d3 A4 ts.length d4 miss s12 (s13 ++ ⟨#[46, 62]⟩) s14 u k hk Post _ (back10 ?_) fun out ho => HP.out _ out (by rw [K.bapp]; rfl) (fun h => by rw [ho h]; exact HU2.out)
        kernel_rfl
end Go.Proofs.YtocfcajafkkhdaaDoor
end
/- Mb -/
section
namespace Go.Proofs.YtocfcajafkkhdaaDoor
open Go.RowKit

theorem written_len (p : Pi) (hp : p.Sm) (hf : p.Wf) : (written p).length ≤ 200 := by
  have ha := decs_20 (nat_le hf.a)
  have hn := decs_20 (nat_le hf.n)
  have hw : p.word.data.toList.length ≤ 20 := by rw [K.bsize]; exact hp.wl
  have hall : ∀ l : List Int, (∀ k ∈ l, I64 k) → ((l.map fun k => 44 :: decs (nat k)).flatten).length ≤ 21 * l.length := by
    intro l
    induction l with
    | nil => intro _; simp
    | cons k l ih =>
      intro h
      have h1 := ih (fun x hx => h x (by simp [hx]))
      have h2 := decs_20 (nat_le (h k (by simp)))
      rw [List.map_cons, List.flatten_cons, List.length_append, List.length_cons, List.length_cons]
      omega
  have h3 := hall p.all hf.l
  have h4 := hp.al
  unfold written
  repeat (split; · simp only [List.length_append, List.length_cons, List.length_nil]; omega)
  omega
/-- what the pieces make, so far -/
def Outs (dest : List Pi) (ss : List (List UInt8)) (j : Nat) (out : List UInt8) : Prop :=
  ∃ os : List (List UInt8), os.length = j ∧ (∀ i (h : i < dest.length), i < j → PutIs dest[i] ss (os.getD i [])) ∧ out = jn 46 os
theorem Outs.step {dest : List Pi} {ss : List (List UInt8)} {j : Nat} {out o out2 : List UInt8} (h : Outs dest ss j out) (hj : j < dest.length) (hp : PutIs dest[j] ss o) (h2 : out2 = (if j = 0 then [] else out ++ [46]) ++ o) : Outs dest ss (j + 1) out2 := by
  obtain ⟨os, h3, h4, h5⟩ := h
  refine ⟨os ++ [o], by simp [h3], fun i hi hij => ?_, ?_⟩
  · rcases Nat.lt_or_ge i j with h6 | h6
    · rw [List.getD, List.getElem?_append_left (by omega)]
      exact h4 i hi h6
    · obtain rfl : i = j := by omega
      rw [List.getD, List.getElem?_append_right (by omega), h3, Nat.sub_self]
      exact hp
  · rw [jn_snoc, h2, h5]
    by_cases h0 : j = 0
    · rw [if_pos h0, if_pos (List.eq_nil_of_length_eq_zero (by omega))]; rfl
    · rw [if_neg h0, if_neg (by intro e; rw [e] at h3; simp at h3; omega)]
      simp
theorem texts_step {dest : List Pi} {j : Nat} {t t2 : List UInt8} (hj : j < dest.length) (h : t = jn 46 ((dest.take j).map written)) (h2 : t2 = (if j = 0 then [] else t ++ [46]) ++ written dest[j]) : t2 = jn 46 ((dest.take (j + 1)).map written) := by
  rw [List.take_succ_eq_append_getElem hj, List.map_append, List.map_cons, List.map_nil, jn_snoc, h2, h]
  by_cases h0 : j = 0
  · subst h0; simp
  · rw [if_neg h0, if_neg (by intro e; have := congrArg List.length e; rw [List.length_map, List.length_take, List.length_nil] at this; omega)]
    simp
set_option maxHeartbeats 8000000 in
set_option maxRecDepth 1000000 in
theorem restD_any (w : World) (A0 : Option Addr) (n0 d0 : Nat) (r : Bool) (A2 : Option Addr) (n2 d2 : Nat) (A3 : Option Addr) (n3 d3 : Nat) (A4 : Option Addr) (n4 d4 : Nat) (miss : Int) (s12 s13 s14 s15 : ByteArray) (k : Int) (ws : List (List UInt8)) (dest : List Pi) (ss ts : List (List UInt8)) (hC : Mc w A0 A2 A3 A4 ws dest ss ts) (hl : Ml ws dest ss ts) (h2 : n2 = dest.length) (h3 : n3 = ss.length) (h4 : n4 = ts.length) (hs : s13 = ⟨#[]⟩) (hs2 : s15 = ⟨#[]⟩) (hss : ∀ u ∈ ss, u ≠ []) (hk : k = 0 ∨ k = 2) (Post : Ending → World → Prop) (a : Act) (ha : ∃ x, a = ⟨(F10 A0 n0 d0 r A2 n2 d2 A3 n3 d3 A4 n4 d4 miss s12 s13 s14 s15 k x).toArray, []⟩)
    (hNo : ∀ w', Below w.heap.size w w' → Post (.returned (.tuple #[.string ⟨#[]⟩, .string ⟨#[]⟩, .string ⟨#[]⟩, .string ⟨#[]⟩, .int .i64 0, .bool false])) w')
    (hP : ∀ (w' : World) (to out : ByteArray) (out0 : List UInt8), Below w.heap.size w w' → (∀ p ∈ dest, Right ss.length p) → to.data.toList = jn 46 (dest.map written) ++ (if r = true then [46, 62] else []) → (k = 0 → Outs dest ss dest.length out0 ∧ out.data.toList = out0 ++ (if r = true then tailed ts else [])) → Post (.returned (.tuple #[.string s12, .string to, .string s14, .string out, .int .i64 k, .bool true])) w') :
    restD.wp Tryd.prog (bodyPost Tryd.prog Tryd.f10 Post) a w := by
  obtain ⟨x, rfl⟩ := ha
  subst h2 h3 h4 hs hs2
  have HP := Lib.hid hP
  have HN := Lib.hid hNo
  have HC := Lib.hid (And.intro hC (And.intro hl (And.intro hss hk)))
  have hd8 := hl.d0
  have hs8 := hl.s0
  clear hP hNo hC hl hss
  conv => arg 2; whnf
  unfold F10
  go_upto_region 31 with (fail)
  rename_i K9 hK9 K8 hK8
  have HK9 := Lib.hid hK9
  clear hK9
  go_upto_region 32 with (fail)
  have HZ := Lib.hid s46
  go_loopg [12, 13, 14, 15, 16, 17, 126] dest.length (fun gk v12 tv v14 ov v16 v17 i wv => ∃ (j : Nat) (t u : ByteArray), gk + j = dest.length ∧ v12 = .string s12 ∧ i = .int .i64 j ∧ tv = .string t ∧ v14 = .string s14 ∧ ov = .string u ∧ v16 = .int .i64 k ∧ v17 = .bool true ∧ t.size ≤ 201 * j ∧ u.size ≤ 201 * j ∧ Hid (Below w.heap.size w wv ∧ (∀ p ∈ dest.take j, Right ss.length p) ∧ t.data.toList = jn 46 ((dest.take j).map written) ∧ (k = 0 → Outs dest ss j u.data.toList)))
  case atStart => exact ⟨0, ⟨#[]⟩, ⟨#[]⟩, by omega, rfl, rfl, rfl, rfl, rfl, rfl, rfl, by decide, by decide, Lib.hid ⟨Below.refl _ _, by simp, rfl, fun _ => ⟨[], rfl, fun i hi h => by omega, rfl⟩⟩⟩
  case round =>
    obtain ⟨j, t, u, hgk, rfl, rfl, rfl, rfl, rfl, rfl, rfl, hts, hus, HR⟩ := hrel
    by_cases hlt : j < dest.length
    · obtain ⟨ab, ao, rfl, hab, hcs⟩ := HC.out.1.l2 (by omega)
      have hcell : ∀ (i : Nat) (v : Value), w.cell? ⟨ab, i, none⟩ = some v → wr.cell? ⟨ab, i, none⟩ = some v := fun i v h => (HR.out.1.cell (p := ⟨ab, i, none⟩) hab).trans h
      obtain ⟨e0, e1, e2, e3, B, d, e4, hL⟩ := hcs j hlt
      have f0 := hcell _ _ e0
      have f1 := hcell _ _ e1
      have f2 := hcell _ _ e2
      have f3 := hcell _ _ e3
      have f4 := hcell _ _ e4
      have hsm := HC.out.2.1.d1 _ (List.getElem_mem hlt)
      have hwf := HC.out.2.1.d2 _ (List.getElem_mem hlt)
      have htk := List.take_succ_eq_append_getElem hlt
      have hbk := K.heap_alloc_at wr (.cells #[.int .i64 dest[j].fn, .int .i64 dest[j].at_, .int .i64 dest[j].n, .string dest[j].word, .slice B dest[j].all.length d] 41)
      have hb1 : Below wr.heap.size wr (wr.alloc (.cells #[.int .i64 dest[j].fn, .int .i64 dest[j].at_, .int .i64 dest[j].n, .string dest[j].word, .slice B dest[j].all.length d] 41)) := (Below.refl _ _).alloc (Nat.le_refl _) _
      have hlt1 : wr.heap.size < (wr.alloc (.cells #[.int .i64 dest[j].fn, .int .i64 dest[j].at_, .int .i64 dest[j].n, .string dest[j].word, .slice B dest[j].all.length d] 41)).heap.size := by simp
      have hbw : Below w.heap.size w (wr.alloc (.cells #[.int .i64 dest[j].fn, .int .i64 dest[j].at_, .int .i64 dest[j].n, .string dest[j].word, .slice B dest[j].all.length d] 41)) := HR.out.1.trans (hb1.mono HR.out.1.size)
      have h19 := mapRight_any dest[j] B d ss.length _ (by omega) hsm (hL.below hbw (Nat.le_refl _))
      have HT := Lib.hid (And.intro hL (And.intro hsm (And.intro hwf (And.intro htk (And.intro hbk (And.intro hbw hlt1))))))
      have HLT := Lib.hid hlt
      have HGK := Lib.hid hgk
      have hj8 : j ≤ 8 := by omega
      unfold Pi.v at h19
      clear hcs hcell e0 e1 e2 e3 e4 hL hsm hwf htk hbk hb1 hlt1 hbw hgk
      go_wp2_with fail
      refine h19.mono ?_
      rintro e w2 ⟨b, rfl, hb2, hright⟩
      clear h19
      generalize wr.alloc (.cells #[.int .i64 dest[j].fn, .int .i64 dest[j].at_, .int .i64 dest[j].n, .string dest[j].word, .slice B dest[j].all.length d] 41) = wa at HT hb2
      have HB2 := Lib.hid (HT.out.2.2.2.2.2.1.trans (hb2.mono HT.out.2.2.2.2.2.1.size))
      have HBA := Lib.hid hb2
      cases b with
      | false =>
        clear hright hb2 f0 f1 f2 f3 f4
        go_wp2_with fail
        refine bodyPost_ret (six_results _ (by kernel_rfl) _ _ _) rfl ?_
        exact HN.out _ HB2.out
      | true =>
        have hrt := hright rfl
        have HRT := Lib.hid (show ∀ p ∈ dest.take (j + 1), Right ss.length p from fun p hp => by
          rw [HT.out.2.2.2.1] at hp
          rcases List.mem_append.1 hp with hp | hp
          · exact HR.out.2.1 p hp
          · obtain rfl : p = dest[j] := List.mem_singleton.1 hp
            exact hrt)
        have gc : ∀ (i : Nat) (v : Value), (#[.int .i64 dest[j].fn, .int .i64 dest[j].at_, .int .i64 dest[j].n, .string dest[j].word, .slice B dest[j].all.length d] : Array Value)[i]? = some v → w2.cell? ⟨wr.heap.size, i, none⟩ = some v := fun i v h => by
          rw [hb2.cell (p := ⟨wr.heap.size, i, none⟩) HT.out.2.2.2.2.2.2, Lib.cell_of_heap HT.out.2.2.2.2.1]
          exact h
        have g0 := gc 0 _ rfl
        have g1 := gc 1 _ rfl
        have g2 := gc 2 _ rfl
        have g3 := gc 3 _ rfl
        have g4 := gc 4 _ rfl
        have h20 := mapPut_any dest[j] B d w2 ss A3 d3 HT.out.2.1 hrt (HT.out.1.below HB2.out (Nat.le_refl _)) (HC.out.1.l3.below HB2.out (Nat.le_refl _)) HC.out.2.1.s1 HC.out.2.2.1 hs8
        unfold Pi.v at h20
        have hlt2 : wr.heap.size < w2.heap.size := Nat.lt_of_lt_of_le HT.out.2.2.2.2.2.2 hb2.size
        clear hright hb2 f0 f1 f2 f3 f4 hrt gc
        go_wp2_with fail
        refine h20.mono ?_
        rintro e w3 ⟨b2, t2, rfl, hb3, ht2, hput⟩
        have HB3 := Lib.hid (HB2.out.trans (hb3.mono HB2.out.size))
        have gc : ∀ (i : Nat) (v : Value), w2.cell? ⟨wr.heap.size, i, none⟩ = some v → w3.cell? ⟨wr.heap.size, i, none⟩ = some v := fun i v h => (hb3.cell (p := ⟨wr.heap.size, i, none⟩) hlt2).trans h
        replace g0 := gc _ _ g0
        replace g1 := gc _ _ g1
        replace g2 := gc _ _ g2
        replace g3 := gc _ _ g3
        replace g4 := gc _ _ g4
        have h21 := written_any dest[j] B d w3 HT.out.2.1 HT.out.2.2.1 (HT.out.1.below HB3.out (Nat.le_refl _))
        unfold Pi.v at h21
        have hwl := written_len dest[j] HT.out.2.1 HT.out.2.2.1
        obtain ⟨wt, hwt⟩ : ∃ wt : ByteArray, (⟨(written dest[j]).toArray⟩ : ByteArray) = wt := ⟨_, rfl⟩
        rw [hwt] at h21
        have hwl2 : wt.size ≤ 200 := by rw [← hwt]; exact hwl
        have HWT := Lib.hid (show wt.data.toList = written dest[j] from by rw [← hwt])
        clear h20 hb3 gc hwt hwl hlt2
        cases b2 with
        | true =>
          have HPI := Lib.hid (hput rfl)
          clear hput
          by_cases hj0 : j = 0
          · subst hj0
            go_wp2_with fail
            refine h21.mono ?_
            rintro e w4 ⟨rfl, hb4⟩
            have HB4 := Lib.hid (HB3.out.trans (hb4.mono HB3.out.size))
            clear h21 hb4 g0 g1 g2 g3 g4
            go_wp2_with fail
            go_roundg (gk - 1)
            case measure => have := HGK.out; omega
            case rel =>
              refine ⟨0 + 1, t ++ wt, u ++ t2, by have := HGK.out; omega, rfl, rfl, rfl, rfl, rfl, rfl, rfl, by rw [ByteArray.size_append]; omega, by rw [ByteArray.size_append]; omega, Lib.hid ⟨HB4.out, HRT.out, ?_, ?_⟩⟩
              · refine texts_step HLT.out HR.out.2.2.1 ?_
                have e0 : t.data.toList = [] := by rw [HR.out.2.2.1]; rfl
                rw [K.bapp, if_pos rfl, HWT.out, e0]; rfl
              · intro hk0
                refine Outs.step (HR.out.2.2.2 hk0) HLT.out HPI.out ?_
                have e0 : u.data.toList = [] := by
                  obtain ⟨os, q1, _, q3⟩ := HR.out.2.2.2 hk0
                  rw [q3, List.eq_nil_of_length_eq_zero q1]; rfl
                rw [K.bapp, if_pos rfl, e0]
          · have hj1 : (0 : Int) < (j : Int) := by omega
            go_wp2_with fail
            refine h21.mono ?_
            rintro e w4 ⟨rfl, hb4⟩
            have HB4 := Lib.hid (HB3.out.trans (hb4.mono HB3.out.size))
            clear h21 hb4 g0 g1 g2 g3 g4
            go_wp2_with fail
            go_roundg (gk - 1)
            case measure => have := HGK.out; omega
            case rel =>
              refine ⟨j + 1, t ++ ⟨#[46]⟩ ++ wt, u ++ ⟨#[46]⟩ ++ t2, by have := HGK.out; omega, rfl, by go_num, rfl, rfl, rfl, rfl, rfl, by rw [ByteArray.size_append, ByteArray.size_append, HZ.out]; omega, by rw [ByteArray.size_append, ByteArray.size_append, HZ.out]; omega, Lib.hid ⟨HB4.out, HRT.out, ?_, ?_⟩⟩
              · refine texts_step HLT.out HR.out.2.2.1 ?_
                rw [K.bapp, K.bapp, if_neg hj0, HWT.out]; rfl
              · intro hk0
                refine Outs.step (HR.out.2.2.2 hk0) HLT.out HPI.out ?_
                rw [K.bapp, K.bapp, if_neg hj0]
        | false =>
          clear hput
          rcases HC.out.2.2.2 with rfl | rfl
          · go_wp2_with fail
            refine bodyPost_ret (six_results _ (by kernel_rfl) _ _ _) rfl ?_
            exact HN.out _ HB3.out
          · have hk2 : True := trivial
            clear hk2
            by_cases hj0 : j = 0
            · subst hj0
              go_wp2_with fail
              refine h21.mono ?_
              rintro e w4 ⟨rfl, hb4⟩
              have HB4 := Lib.hid (HB3.out.trans (hb4.mono HB3.out.size))
              clear h21 hb4 g0 g1 g2 g3 g4
              go_wp2_with fail
              go_roundg (gk - 1)
              case measure => have := HGK.out; omega
              case rel =>
                refine ⟨0 + 1, t ++ wt, u ++ t2, by have := HGK.out; omega, rfl, rfl, rfl, rfl, rfl, rfl, rfl, by rw [ByteArray.size_append]; omega, by rw [ByteArray.size_append]; omega, Lib.hid ⟨HB4.out, HRT.out, ?_, ?_⟩⟩
                · refine texts_step HLT.out HR.out.2.2.1 ?_
                  have e0 : t.data.toList = [] := by rw [HR.out.2.2.1]; rfl
                  rw [K.bapp, if_pos rfl, HWT.out, e0]; rfl
                · intro hk0
                  cases hk0
            · have hj1 : (0 : Int) < (j : Int) := by omega
              go_wp2_with fail
              refine h21.mono ?_
              rintro e w4 ⟨rfl, hb4⟩
              have HB4 := Lib.hid (HB3.out.trans (hb4.mono HB3.out.size))
              clear h21 hb4 g0 g1 g2 g3 g4
              go_wp2_with fail
              go_roundg (gk - 1)
              case measure => have := HGK.out; omega
              case rel =>
                refine ⟨j + 1, t ++ ⟨#[46]⟩ ++ wt, u ++ ⟨#[46]⟩ ++ t2, by have := HGK.out; omega, rfl, by go_num, rfl, rfl, rfl, rfl, rfl, by rw [ByteArray.size_append, ByteArray.size_append, HZ.out]; omega, by rw [ByteArray.size_append, ByteArray.size_append, HZ.out]; omega, Lib.hid ⟨HB4.out, HRT.out, ?_, ?_⟩⟩
                · refine texts_step HLT.out HR.out.2.2.1 ?_
                  rw [K.bapp, K.bapp, if_neg hj0, HWT.out]; rfl
                · intro hk0
                  cases hk0
    · obtain rfl : j = dest.length := by omega
      have hh := HR.out.2
      rw [List.take_length] at hh
      have HH := Lib.hid hh
      clear hh
      go_wp2_with fail
      refine HK9.out _ _ ?_
      refine restE_any wr A0 n0 d0 r A2 dest.length d2 A3 ss.length d3 A4 ts.length d4 miss s12 t s14 u k ws dest ss ts (HC.out.1.below HR.out.1) HC.out.2.1 rfl HC.out.2.2.2 (by omega) (by omega) Post _ (back10 ?_) fun to out h1 h2 => HP.out wr to out u.data.toList HR.out.1 HH.out.1 (by rw [h1, HH.out.2.1]) (fun h => ⟨HH.out.2.2 h, h2 h⟩)
      kernel_rfl
end Go.Proofs.YtocfcajafkkhdaaDoor
end
/- Mw -/
section
namespace Go.Proofs.YtocfcajafkkhdaaDoor
open Go.RowKit

set_option maxHeartbeats 8000000 in
set_option maxRecDepth 1000000 in
theorem restC_any (w : World) (A0 : Option Addr) (n0 d0 : Nat) (r : Bool) (A2 : Option Addr) (n2 d2 : Nat) (A3 : Option Addr) (n3 d3 : Nat) (A4 : Option Addr) (n4 d4 : Nat) (miss : Int) (s12 s13 s14 s15 : ByteArray) (k : Int) (ws : List (List UInt8)) (dest : List Pi) (ss ts : List (List UInt8)) (hC : Mc w A0 A2 A3 A4 ws dest ss ts) (hl : Ml ws dest ss ts) (h2 : n2 = dest.length) (h3 : n3 = ss.length) (h4 : n4 = ts.length) (hs : s13 = ⟨#[]⟩) (hs2 : s15 = ⟨#[]⟩) (hss : ∀ u ∈ ss, u ≠ []) (hts : ∀ u ∈ ts, u ≠ []) (hk : k = 0 ∨ k = 2)
    (sub : List (List UInt8)) (hsub : s14.data.toList = jn 46 sub) (hsn : ∀ u ∈ sub, u ≠ []) (hsz : s14.size ≤ 1000) (Post : Ending → World → Prop) (a : Act) (ha : ∃ x, a = ⟨(F10 A0 n0 d0 r A2 n2 d2 A3 n3 d3 A4 n4 d4 miss s12 s13 s14 s15 k x).toArray, []⟩)
    (hNo : ∀ w', Below w.heap.size w w' → Post (.returned (.tuple #[.string ⟨#[]⟩, .string ⟨#[]⟩, .string ⟨#[]⟩, .string ⟨#[]⟩, .int .i64 0, .bool false])) w')
    (hP : ∀ (w' : World) (to subj out : ByteArray) (k2 : Int) (out0 : List UInt8), Below w.heap.size w w' → (∀ p ∈ dest, Right ss.length p) → subj.data.toList = jn 46 (sub ++ ts) → k2 = k → to.data.toList = jn 46 (dest.map written) ++ (if r = true then [46, 62] else []) → (k2 = 0 → Outs dest ss dest.length out0 ∧ out.data.toList = out0 ++ (if r = true then tailed ts else [])) → Post (.returned (.tuple #[.string s12, .string to, .string subj, .string out, .int .i64 k2, .bool true])) w') :
    restC.wp Tryd.prog (bodyPost Tryd.prog Tryd.f10 Post) a w := by
  obtain ⟨x, rfl⟩ := ha
  subst h2 h3 h4
  have HP := Lib.hid (And.intro hP hNo)
  have HC := Lib.hid (And.intro hC (And.intro hl (And.intro hss (And.intro hts (And.intro hk (And.intro hsub (And.intro hsn (And.intro hs hs2))))))))
  have ht4 := hl.t0
  have HZ := Lib.hid s46
  clear hP hNo hC hl hss hts hk hsub hsn hs hs2
  conv => arg 2; whnf
  unfold F10
  go_upto_region 24 with (fail)
  rename_i K9 hK9 K8 hK8
  have HK9 := Lib.hid hK9
  clear hK9
  go_upto_region 25 with (fail)
  go_loop [14, 112] (fun tv i => ∃ (j : Nat) (u : ByteArray), j ≤ ts.length ∧ i = .int .i64 j ∧ tv = .string u ∧ u.size ≤ 1000 + 21 * j ∧ Hid (u.data.toList = jn 46 (sub ++ ts.take j))) (fun _ i => ts.length - (intOf i).toNat)
  case atStart => exact ⟨0, s14, by omega, rfl, rfl, by omega, Lib.hid (by rw [HC.out.2.2.2.2.2.1]; simp)⟩
  case round =>
    obtain ⟨j, u, hj, rfl, rfl, hus, HU⟩ := hrel
    by_cases hlt : j < ts.length
    · obtain ⟨ab, ao, tb, rfl, c1, htl, hmem, _⟩ := lies_at HC.out.1.l4 hlt
      have hsz : tb.size ≤ 20 := by rw [← K.bsize, htl]; exact HC.out.2.1.t1 _ hmem
      have HT := Lib.hid htl
      have hem : ∀ b, u.toList.isEmpty = b → (sub ++ ts.take j = [] ↔ b = true) := fun b e => by
        rw [← e, ByteArray.toList_eq, List.isEmpty_iff, HU.out]
        constructor
        · intro h; rw [h]; rfl
        · intro h
          refine jn_nil (fun t ht => ?_) h
          rcases List.mem_append.1 ht with ht | ht
          · exact HC.out.2.2.2.2.2.2.1 t ht
          · exact HC.out.2.2.2.1 t (List.mem_of_mem_take ht)
      have HEM := Lib.hid hem
      clear htl hmem hem
      by_cases he : u.toList.isEmpty = true
      · have HE := Lib.hid ((HEM.out _ he).2 rfl)
        go_wp2_with fail
        go_round
        case rel =>
          refine ⟨j + 1, u ++ tb, by omega, by go_num, rfl, by rw [ByteArray.size_append]; omega, Lib.hid ?_⟩
          rw [K.bapp, HU.out, take_getD hlt, ← List.append_assoc, jn_snoc, if_pos HE.out, HE.out, HT.out]
          rfl
        case measure => simp [intOf]; omega
      · have he2 : u.toList.isEmpty = false := by simpa using he
        have HE := Lib.hid (show sub ++ ts.take j ≠ [] from fun e => by
          have := (HEM.out _ he2).1 e
          cases this)
        clear he
        go_wp2_with fail
        go_round
        case rel =>
          refine ⟨j + 1, u ++ ⟨#[46]⟩ ++ tb, by omega, by go_num, rfl, by rw [ByteArray.size_append, ByteArray.size_append, HZ.out]; omega, Lib.hid ?_⟩
          rw [K.bapp, K.bapp, HU.out, take_getD hlt, ← List.append_assoc, jn_snoc, if_neg HE.out, HT.out]
          simp
        case measure => simp [intOf]; omega
    · obtain rfl : j = ts.length := by omega
      have hu := HU.out
      rw [List.take_length] at hu
      have HU2 := Lib.hid hu
      clear hu
      go_wp2_with fail
      refine HK9.out _ _ ?_
      refine restD_any w A0 n0 d0 r A2 dest.length d2 A3 ss.length d3 A4 ts.length d4 miss s12 s13 u s15 k ws dest ss ts HC.out.1 HC.out.2.1 rfl rfl rfl HC.out.2.2.2.2.2.2.2.1 HC.out.2.2.2.2.2.2.2.2 HC.out.2.2.1 HC.out.2.2.2.2.1 Post _ (back10 ?_) HP.out.2
        fun w' to out out0 h1 h2 h3 h4 => HP.out.1 w' to u out k out0 h1 h2 HU2.out rfl h3 h4
      kernel_rfl
/-- a subject's token -/
def subTok (ws ss : List (List UInt8)) (miss : Int) (i : Nat) : List UInt8 := if ws.getD i [] = [] then ss.getD (stars (ws.take i)) [] else if (i : Int) = miss then ws.getD i [] ++ [120] else ws.getD i []
def subs (ws ss : List (List UInt8)) (miss : Int) (j : Nat) : List (List UInt8) := (List.range j).map (subTok ws ss miss)
/-- a word differs -/
def missed (ws : List (List UInt8)) (miss : Int) (j : Nat) : Prop := ∃ i : Nat, i < j ∧ ws.getD i [] ≠ [] ∧ (i : Int) = miss
def Kd (ws : List (List UInt8)) (miss : Int) (j : Nat) (k : Int) : Prop := (k = 0 ∧ ¬ missed ws miss j) ∨ (k = 2 ∧ missed ws miss j)
theorem subs_step {ws ss : List (List UInt8)} {miss : Int} {j : Nat} {u : List UInt8} (h : u = jn 46 (subs ws ss miss j)) {u2 : List UInt8} (h2 : u2 = (if j = 0 then [] else u ++ [46]) ++ subTok ws ss miss j) : u2 = jn 46 (subs ws ss miss (j + 1)) := by
  unfold subs at *
  rw [List.range_succ, List.map_append, List.map_cons, List.map_nil, jn_snoc, h2, h]
  by_cases h0 : j = 0
  · subst h0; simp
  · rw [if_neg h0, if_neg (by intro e; have := congrArg List.length e; simp at this; omega)]
    simp
theorem Kd.same {ws : List (List UInt8)} {miss : Int} {j : Nat} {k : Int} (h : Kd ws miss j k) (hn : ws.getD j [] = [] ∨ (j : Int) ≠ miss) : Kd ws miss (j + 1) k := by
  have e : missed ws miss (j + 1) ↔ missed ws miss j := by
    constructor
    · rintro ⟨i, hi, h1, h2⟩
      rcases Nat.lt_or_ge i j with h3 | h3
      · exact ⟨i, h3, h1, h2⟩
      · obtain rfl : i = j := by omega
        rcases hn with hn | hn
        · exact absurd hn h1
        · exact absurd h2 hn
    · rintro ⟨i, hi, h1, h2⟩
      exact ⟨i, by omega, h1, h2⟩
  unfold Kd at *
  rwa [e]
theorem Kd.hit {ws : List (List UInt8)} {miss : Int} {j : Nat} (h1 : ws.getD j [] ≠ []) (h2 : (j : Int) = miss) : Kd ws miss (j + 1) 2 := .inr ⟨rfl, j, by omega, h1, h2⟩
theorem stars_step {ws : List (List UInt8)} {j : Nat} (h : j < ws.length) : stars (ws.take (j + 1)) = stars (ws.take j) + if ws.getD j [] = [] then 1 else 0 := by
  rw [take_getD h]
  unfold stars
  rw [List.countP_append]
  congr 1
  by_cases h0 : ws.getD j [] = []
  · rw [if_pos h0, h0]; rfl
  · rw [if_neg h0, List.countP_eq_zero]
    intro a ha
    obtain rfl : a = ws.getD j [] := List.mem_singleton.1 ha
    simpa using h0
theorem stars_take (ws : List (List UInt8)) (j : Nat) : stars (ws.take j) ≤ stars ws := by
  conv => rhs; rw [← List.take_append_drop j ws]
  unfold stars
  rw [List.countP_append]
  omega
set_option maxHeartbeats 8000000 in
set_option maxRecDepth 1000000 in
theorem restB_any (w : World) (A0 : Option Addr) (n0 d0 : Nat) (r : Bool) (A2 : Option Addr) (n2 d2 : Nat) (A3 : Option Addr) (n3 d3 : Nat) (A4 : Option Addr) (n4 d4 : Nat) (miss : Int) (s12 s13 s14 s15 : ByteArray) (k : Int) (ws : List (List UInt8)) (dest : List Pi) (ss ts : List (List UInt8)) (hC : Mc w A0 A2 A3 A4 ws dest ss ts) (hl : Ml ws dest ss ts) (h1 : n0 = ws.length) (h2 : n2 = dest.length) (h3 : n3 = ss.length) (h4 : n4 = ts.length) (hs : s13 = ⟨#[]⟩) (hs2 : s15 = ⟨#[]⟩) (hs3 : s14 = ⟨#[]⟩) (hk0 : k = 0) (hst : ss.length = stars ws) (hss : ∀ u ∈ ss, u ≠ []) (hts : ∀ u ∈ ts, u ≠ [])
    (Post : Ending → World → Prop) (a : Act) (ha : ∃ x, a = ⟨(F10 A0 n0 d0 r A2 n2 d2 A3 n3 d3 A4 n4 d4 miss s12 s13 s14 s15 k x).toArray, []⟩)
    (hNo : ∀ w', Below w.heap.size w w' → Post (.returned (.tuple #[.string ⟨#[]⟩, .string ⟨#[]⟩, .string ⟨#[]⟩, .string ⟨#[]⟩, .int .i64 0, .bool false])) w')
    (hP : ∀ (w' : World) (to subj out : ByteArray) (k : Int) (out0 : List UInt8), Below w.heap.size w w' → (∀ p ∈ dest, Right ss.length p) → subj.data.toList = jn 46 (subs ws ss miss ws.length ++ ts) → Kd ws miss ws.length k → to.data.toList = jn 46 (dest.map written) ++ (if r = true then [46, 62] else []) → (k = 0 → Outs dest ss dest.length out0 ∧ out.data.toList = out0 ++ (if r = true then tailed ts else [])) → Post (.returned (.tuple #[.string s12, .string to, .string subj, .string out, .int .i64 k, .bool true])) w') :
    restB.wp Tryd.prog (bodyPost Tryd.prog Tryd.f10 Post) a w := by
  obtain ⟨x, rfl⟩ := ha
  subst h1 h2 h3 h4 hs3 hk0
  have HP := Lib.hid (And.intro hP hNo)
  have HC := Lib.hid (And.intro hC (And.intro hl (And.intro hss (And.intro hts (And.intro hst (And.intro hs hs2))))))
  have hw8 := hl.w0
  have HZ := Lib.hid (And.intro s46 (show (⟨#[120]⟩ : ByteArray).size = 1 from rfl))
  clear hP hNo hC hl hss hts hst hs hs2
  conv => arg 2; whnf
  unfold F10
  go_upto_region 11 with (fail)
  rename_i K9 hK9 K8 hK8
  have HK9 := Lib.hid hK9
  clear hK9
  go_upto_region 12 with (fail)
  go_loop [14, 16, 21, 84] (fun tv kv av i => ∃ (j : Nat) (u : ByteArray) (k : Int), j ≤ ws.length ∧ i = .int .i64 j ∧ tv = .string u ∧ kv = .int .i64 k ∧ av = .int .i64 (stars (ws.take j) : Nat) ∧ u.size ≤ 22 * j ∧ Hid (u.data.toList = jn 46 (subs ws ss miss j) ∧ Kd ws miss j k)) (fun _ _ _ i => ws.length - (intOf i).toNat)
  case atStart => exact ⟨0, ⟨#[]⟩, 0, by omega, rfl, rfl, rfl, rfl, by decide, Lib.hid ⟨rfl, .inl ⟨rfl, fun ⟨i, hi, _⟩ => by omega⟩⟩⟩
  case round =>
    obtain ⟨j, u, k, hj, rfl, rfl, rfl, rfl, hus, HU⟩ := hrel
    by_cases hlt : j < ws.length
    · obtain ⟨ab, ao, tb, rfl, c1, htl, hmem, _⟩ := lies_at HC.out.1.l0 hlt
      have hsz : tb.size ≤ 20 := by rw [← K.bsize, htl]; exact HC.out.2.1.w1 _ hmem
      have hstep := stars_step hlt
      have hem : ∀ b, tb.toList.isEmpty = b → (ws.getD j [] = [] ↔ b = true) := fun b e => by rw [← e, ByteArray.toList_eq, List.isEmpty_iff, htl]
      have HEM := Lib.hid (And.intro hem htl)
      clear htl hmem hem
      by_cases he : tb.toList.isEmpty = true
      · have hE := (HEM.out.1 _ he).2 rfl
        rw [if_pos hE] at hstep
        have hq : stars (ws.take j) < ss.length := by
          have h1 := stars_take ws (j + 1)
          have h2 := HC.out.2.2.2.2.1
          omega
        have htok : subTok ws ss miss j = ss.getD (stars (ws.take j)) [] := by unfold subTok; rw [if_pos hE]
        have hkd := HU.out.2.same (.inl hE)
        have hs8 := HC.out.2.1.s0
        generalize stars (ws.take j) = q at hq htok hstep
        obtain ⟨bb, bo, sw, rfl, c2, hswl, hsmem, _⟩ := lies_at HC.out.1.l3 hq
        have hsz2 : sw.size ≤ 20 := by rw [← K.bsize, hswl]; exact HC.out.2.1.s1 _ hsmem
        have HS := Lib.hid (And.intro (htok.trans hswl.symm) (And.intro hkd hstep))
        clear hE htok hkd hswl hsmem hstep
        by_cases hj0 : j = 0
        · subst hj0
          rw [Nat.add_zero] at c1
          go_wp2_with fail
          go_round
          case rel =>
            refine ⟨1, u ++ sw, k, by omega, rfl, rfl, rfl, by rw [HS.out.2.2]; go_num, by rw [ByteArray.size_append]; omega, Lib.hid ⟨subs_step HU.out.1 ?_, HS.out.2.1⟩⟩
            have e0 : u.data.toList = [] := by rw [HU.out.1]; rfl
            rw [K.bapp, e0, if_pos rfl, HS.out.1]
          case measure => simp [intOf]; omega
        · have hj1 : (0 : Int) < (j : Int) := by omega
          go_wp2_with fail
          go_round
          case rel =>
            refine ⟨j + 1, u ++ ⟨#[46]⟩ ++ sw, k, by omega, by go_num, rfl, rfl, by rw [HS.out.2.2]; go_num, by rw [ByteArray.size_append, ByteArray.size_append, HZ.out.1]; omega, Lib.hid ⟨subs_step HU.out.1 ?_, HS.out.2.1⟩⟩
            rw [K.bapp, K.bapp, if_neg hj0, HS.out.1]
          case measure => simp [intOf]; omega
      · have he2 : tb.toList.isEmpty = false := by simpa using he
        have hE : ws.getD j [] ≠ [] := fun e => by
          have := (HEM.out.1 _ he2).1 e
          cases this
        rw [if_neg hE, Nat.add_zero] at hstep
        clear he
        by_cases hm : (j : Int) = miss
        · have b1 : ((j : Int) == miss) = true := by rw [beq_iff_eq]; exact hm
          have htok : subTok ws ss miss j = tb.data.toList ++ [120] := by unfold subTok; rw [if_neg hE, if_pos hm, HEM.out.2]
          have HS := Lib.hid (And.intro htok (And.intro (Kd.hit hE hm) hstep))
          clear hm htok hE hstep
          generalize stars (ws.take j) = q at HS
          by_cases hj0 : j = 0
          · subst hj0
            rw [Nat.add_zero] at c1
            go_wp2_with fail
            go_round
            case rel =>
              refine ⟨1, u ++ (tb ++ ⟨#[120]⟩), 2, by omega, rfl, rfl, rfl, by rw [HS.out.2.2]; rfl, by rw [ByteArray.size_append, ByteArray.size_append, HZ.out.2]; omega, Lib.hid ⟨subs_step HU.out.1 ?_, HS.out.2.1⟩⟩
              have e0 : u.data.toList = [] := by rw [HU.out.1]; rfl
              rw [K.bapp, K.bapp, e0, if_pos rfl, HS.out.1]
            case measure => simp [intOf]; omega
          · have hj1 : (0 : Int) < (j : Int) := by omega
            go_wp2_with fail
            go_round
            case rel =>
              refine ⟨j + 1, u ++ ⟨#[46]⟩ ++ (tb ++ ⟨#[120]⟩), 2, by omega, by go_num, rfl, rfl, by rw [HS.out.2.2]; rfl, by rw [ByteArray.size_append, ByteArray.size_append, ByteArray.size_append, HZ.out.1, HZ.out.2]; omega, Lib.hid ⟨subs_step HU.out.1 ?_, HS.out.2.1⟩⟩
              rw [K.bapp, K.bapp, K.bapp, if_neg hj0, HS.out.1]
            case measure => simp [intOf]; omega
        · have b1 : ((j : Int) == miss) = false := by rw [beq_eq_false_iff_ne]; exact hm
          have htok : subTok ws ss miss j = tb.data.toList := by unfold subTok; rw [if_neg hE, if_neg hm, HEM.out.2]
          have HS := Lib.hid (And.intro htok (And.intro (HU.out.2.same (.inr hm)) hstep))
          clear hm htok hE hstep
          generalize stars (ws.take j) = q at HS
          by_cases hj0 : j = 0
          · subst hj0
            rw [Nat.add_zero] at c1
            go_wp2_with fail
            go_round
            case rel =>
              refine ⟨1, u ++ tb, k, by omega, rfl, rfl, rfl, by rw [HS.out.2.2]; rfl, by rw [ByteArray.size_append]; omega, Lib.hid ⟨subs_step HU.out.1 ?_, HS.out.2.1⟩⟩
              have e0 : u.data.toList = [] := by rw [HU.out.1]; rfl
              rw [K.bapp, e0, if_pos rfl, HS.out.1]
            case measure => simp [intOf]; omega
          · have hj1 : (0 : Int) < (j : Int) := by omega
            go_wp2_with fail
            go_round
            case rel =>
              refine ⟨j + 1, u ++ ⟨#[46]⟩ ++ tb, k, by omega, by go_num, rfl, rfl, by rw [HS.out.2.2]; rfl, by rw [ByteArray.size_append, ByteArray.size_append, HZ.out.1]; omega, Lib.hid ⟨subs_step HU.out.1 ?_, HS.out.2.1⟩⟩
              rw [K.bapp, K.bapp, if_neg hj0, HS.out.1]
            case measure => simp [intOf]; omega
    · obtain rfl : j = ws.length := by omega
      have hkd := HU.out.2
      have hk : k = 0 ∨ k = 2 := by rcases hkd with ⟨h, _⟩ | ⟨h, _⟩ <;> omega
      have HKD := Lib.hid (And.intro hkd hk)
      clear hkd hk
      generalize stars (ws.take ws.length) = q
      go_wp2_with fail
      refine HK9.out _ _ ?_
      refine restC_any w A0 ws.length d0 r A2 dest.length d2 A3 ss.length d3 A4 ts.length d4 miss s12 s13 u s15 k ws dest ss ts HC.out.1 HC.out.2.1 rfl rfl rfl HC.out.2.2.2.2.2.1 HC.out.2.2.2.2.2.2 HC.out.2.2.1 HC.out.2.2.2.1 HKD.out.2 (subs ws ss miss ws.length) HU.out.1 ?_ (by omega) Post _ (back10 ?_) HP.out.2
        fun w' to subj out k' out0 h1 h2 h3 h4 h5 h6 => HP.out.1 w' to subj out k' out0 h1 h2 h3 (by rw [h4]; exact HKD.out.1) h5 h6
      · intro t ht
        unfold subs at ht
        obtain ⟨i, hi, rfl⟩ := List.mem_map.1 ht
        have hi2 : i < ws.length := by simpa using hi
        unfold subTok
        split
        · rename_i h0
          have h1 := stars_take ws (i + 1)
          have h2 := HC.out.2.2.2.2.1
          have h3 := stars_step hi2
          rw [if_pos h0] at h3
          have h4 : stars (ws.take i) < ss.length := by omega
          exact HC.out.2.2.1 _ (by rw [List.getD, List.getElem?_eq_getElem h4]; exact List.getElem_mem h4)
        · split
          · simp
          · assumption
      · kernel_rfl
end Go.Proofs.YtocfcajafkkhdaaDoor
end
