/-
  transformIndexIntArgsHelper at two numbers.
  indexPlaceHolders at a function of two numbers in double braces.
  Printed by wip/py/gen_pm.py.
  indexPlaceHolders at a function partition in double braces.
  Printed by wip/py/gen_pm.py.
-/
import Derived.Test.YtocfcajafkkhdaaDoorZG2
import Derived.Lib.LazyBuf
/- Ha -/
section
namespace Go.Proofs.YtocfcajafkkhdaaDoor
open Go.RowKit

/-- a function of the wildcard n by m -/
def Kn.two (ty : Int) (n m : Nat) : Kn := ⟨ty, [(n : Int)], m, ⟨#[]⟩⟩
set_option maxHeartbeats 4000000 in
set_option maxRecDepth 100000 in
theorem helper_any (t a b : ByteArray) (ty : Int) (g o c : Nat) (w : World) (hg : g < w.heap.size) (hc0 : w.cell? ⟨g, o, none⟩ = some (.string a)) (hc1 : w.cell? ⟨g, o + 1, none⟩ = some (.string b)) (ha : a.size ≤ 9) (hb : b.size ≤ 9) (hda : Digits a.data.toList) (hdb : Digits b.data.toList) :
    Calls Tryd.prog 54 #[.string t, .slice (some ⟨g, o, none⟩) 2 c, .int .i16 ty] w (PhPost (Kn.two ty (dec a.data.toList) (dec b.data.toList)) w) := by
  have hta := trim_no a w (by omega) hda.bytes.1 hda.bytes.2
  have htb := fun w => trim_no b w (by omega) hdb.bytes.1 hdb.bytes.2
  have hia := fun w => atoi_any a w ha hda
  have hib := fun w => parse32_any b w hb hdb
  have hlb := hdb.lt hb
  generalize dec a.data.toList = n at hia ⊢
  generalize dec b.data.toList = m at hib hlb ⊢
  clear hda hdb
  go_enter Tryd.func54, Tryd.ntmps54
  go_wp2_with fail
  with_reducible refine hta.mono ?_
  rintro e w1 ⟨rfl, hb1⟩
  clear hta
  go_wp2_with fail
  with_reducible refine (hia w1).mono ?_
  rintro e w2 ⟨rfl, hb2⟩
  clear hia
  have hb3 := hb1.trans (hb2.mono hb1.size)
  have hc2 : w2.cell? ⟨g, o + 1, none⟩ = some (.string b) := (hb3.cell hg).trans hc1
  have hs2 := hb3.size
  have HB := Lib.hid hb3
  clear hb1 hb2 hb3 hc0 hc1
  go_wp2_with fail
  with_reducible refine (htb w2).mono ?_
  rintro e w3 ⟨rfl, hb3⟩
  clear htb
  go_wp2_with fail
  with_reducible refine (hib w3).mono ?_
  rintro e w4 ⟨rfl, hb4⟩
  clear hib
  have hb5 : Below w.heap.size w w4 := HB.out.trans ((hb3.mono hs2).trans (hb4.mono (Nat.le_trans hs2 hb3.size)))
  clear hb3 hb4 hc2
  go_wp2_with fail
  refine bodyPost_ret (v := .tuple #[.int .i16 ty, .slice (some ⟨w4.heap.size, 0, none⟩) 1 1, .int .i32 m, .string ⟨#[]⟩, .nilIface]) (by simp [results, Tryd.results54, go_sem]) rfl ?_
  exact ⟨_, _, rfl, hb5.alloc hb5.size _, hb5.size, lies_num w4 n⟩
end Go.Proofs.YtocfcajafkkhdaaDoor
end
/- Pm -/
section
namespace Go.Proofs.YtocfcajafkkhdaaDoor
open Go.RowKit

def chb (c n : UInt8) : Bool := c == n || (decide (65 ≤ n.toNat) && decide (n.toNat ≤ 90) && decide (c.toNat = n.toNat + 32))
theorem chb_iff (c n : UInt8) : chb c n = true ↔ Ch c n := by
  unfold chb Ch
  simp [and_assoc]
/-- a name that does not stand there: some letter differs -/
def mis (name fn : List UInt8) : Bool := (List.zip (fn ++ [40]) name).any (fun p => !chb p.1 p.2)
def hit (name fn : List UInt8) : Bool := name.length == fn.length && (List.zip fn name).all (fun p => chb p.1 p.2)
theorem Mu.bfo {s : ByteArray} {fn args : List UInt8} (h : Mu s fn args) {i : Nat} (hi : i < (fn ++ [40]).length) : ∃ h0 : 2 + i < s.size, s[2 + i] = (fn ++ [40])[i] := by
  rcases Nat.lt_or_ge i fn.length with h1 | h1
  · obtain ⟨h0, e⟩ := h.bf h1
    exact ⟨h0, by rw [e, List.getElem_append_left h1]⟩
  · have h2 : i = fn.length := by simp at hi; omega
    subst h2
    obtain ⟨h0, e⟩ := h.bo
    exact ⟨h0, by rw [e]; simp⟩
theorem nm_not {s : ByteArray} {fn args : List UInt8} (h : Mu s fn args) (name : ByteArray) (hm : mis name.data.toList fn = true) : ¬ Nm s name 2 := by
  unfold mis at hm
  obtain ⟨p, hp, hq⟩ := List.any_eq_true.1 hm
  obtain ⟨k, hk, e⟩ := List.mem_iff_getElem.1 hp
  rw [List.length_zip] at hk
  have hk1 : k < (fn ++ [40]).length := by omega
  have hk2 : k < name.data.toList.length := by omega
  have hk3 : k < name.size := by rw [← K.bsize]; exact hk2
  rw [List.getElem_zip] at e
  subst e
  obtain ⟨h0, e0⟩ := h.bfo hk1
  intro hN
  have hc := hN.2 k hk3 h0
  rw [e0] at hc
  have e1 : name[k] = name.data.toList[k] := by rw [Array.getElem_toList]; rfl
  rw [e1] at hc
  have h9 := (chb_iff _ _).2 hc
  have hq2 : (!chb (fn ++ [40])[k] name.data.toList[k]) = true := hq
  rw [h9] at hq2
  cases hq2
theorem nm_is {s : ByteArray} {fn args : List UInt8} (h : Mu s fn args) (name : ByteArray) (hm : hit name.data.toList fn = true) : name.size = fn.length ∧ Nm s name 2 := by
  unfold hit at hm
  rw [Bool.and_eq_true, beq_iff_eq, K.bsize] at hm
  refine ⟨hm.1, ?_, ?_⟩
  · have := h.size; omega
  · intro k hk h2
    have hk1 : k < fn.length := by omega
    have hk2 : k < name.data.toList.length := by rw [K.bsize]; exact hk
    obtain ⟨h0, e0⟩ := h.bf hk1
    rw [e0]
    have e1 : name[k] = name.data.toList[k] := by rw [Array.getElem_toList]; rfl
    rw [e1]
    have := List.all_eq_true.1 hm.2 (fn[k], name.data.toList[k]) (List.mem_iff_getElem.2 ⟨k, by rw [List.length_zip]; omega, by rw [List.getElem_zip]⟩)
    exact (chb_iff _ _).1 this
theorem ga_miss {s : ByteArray} {fn args : List UInt8} (h : Mu s fn args) (name : ByteArray) (w : World) (hm : mis name.data.toList fn = true) (hn : name.size ≤ 100) : Calls Tryd.prog 52 #[.string name, .string s] w (ValIs (.slice none 0 0) w) :=
  ga_no s name fn args w h hn (.inl (nm_not h name hm))
theorem ga_hit {s : ByteArray} {fn args : List UInt8} (h : Mu s fn args) (name : ByteArray) (w : World) (hm : hit name.data.toList fn = true) : Calls Tryd.prog 52 #[.string name, .string s] w (SplitPost 44 ⟨args.toArray⟩ w) :=
  ga_yes s name fn args w h (nm_is h name hm).1 (nm_is h name hm).2
/-- the ends of a token in braces, as numbers -/
theorem Mu.ends {s : ByteArray} {fn args : List UInt8} (h : Mu s fn args) : ∃ z : Nat, s.size = z + 2 ∧ 4 ≤ z ∧ (∃ h0 : 0 < s.size, ((s[0].toNat : Nat) : Int) = 123) ∧ (∃ h0 : 1 < s.size, ((s[1].toNat : Nat) : Int) = 123) ∧ (∃ h0 : z < s.size, ((s[z].toNat : Nat) : Int) = 125) ∧ (∃ h0 : z + 1 < s.size, ((s[z + 1].toNat : Nat) : Int) = 125) := by
  have hs := h.size
  refine ⟨fn.length + args.length + 4, by omega, by omega, ?_, ?_, ?_, ?_⟩
  · obtain ⟨h0, e⟩ := h.b0
    exact ⟨h0, by rw [e]; rfl⟩
  · obtain ⟨h0, e⟩ := h.b1
    exact ⟨h0, by rw [e]; rfl⟩
  · obtain ⟨h0, e⟩ := h.bz 1 (by omega)
    have e2 : s[fn.length + args.length + 4] = 125 := by rw [show (125 : UInt8) = ([41, 125, 125] : List UInt8)[1] from rfl, ← e]; congr 1; omega
    exact ⟨by omega, by rw [e2]; rfl⟩
  · obtain ⟨h0, e⟩ := h.bz 2 (by omega)
    have e2 : s[fn.length + args.length + 4 + 1] = 125 := by rw [show (125 : UInt8) = ([41, 125, 125] : List UInt8)[2] from rfl, ← e]; congr 1; omega
    exact ⟨by omega, by rw [e2]; rfl⟩

set_option maxHeartbeats 8000000 in
set_option maxRecDepth 100000 in
theorem ph_splitFromLeft (s : ByteArray) (fn args la lb : List UInt8) (w : World) (h : Mu s fn args) (hf : fn = [115, 112, 108, 105, 116, 70, 114, 111, 109, 76, 101, 102, 116]) (hsp : sp 44 args = [la, lb]) (ha : la.length ≤ 9) (hb : lb.length ≤ 9) (hda : Digits la) (hdb : Digits lb) : Calls Tryd.prog 39 #[.string s] w (PhPost (Kn.two 4 (dec la) (dec lb)) w) := by
  have h0 := ga_miss h ⟨#[87, 105, 108, 100, 99, 97, 114, 100]⟩ w (by subst hf; decide) (by decide)
  have h1 := ga_miss h ⟨#[80, 97, 114, 116, 105, 116, 105, 111, 110]⟩ w (by subst hf; decide) (by decide)
  have hy := ga_hit h ⟨#[83, 112, 108, 105, 116, 70, 114, 111, 109, 76, 101, 102, 116]⟩ w (by subst hf; decide)
  obtain ⟨z, hz, hz4, ⟨l0, e0⟩, ⟨l1, e1⟩, ⟨l2, e2⟩, ⟨l3, e3⟩⟩ := h.ends
  have hl := h.len
  have q0 : (s.size : Int) - 2 = (z : Int) := by omega
  have q1 : (s.size : Int) - 1 = (z : Int) + 1 := by omega
  have q2 : ((z : Int) + 1).toNat = z + 1 := by omega
  have q3 : (4 : Int) < (s.size : Int) := by omega
  have HZ := Lib.hid hz
  have p0 : (z : Int) < (s.size : Int) := by omega
  have p1 : (z : Int) + 1 < (s.size : Int) := by omega
  have hnil := fun (w : World) (a : Option Addr) (l c : Nat) => run_neq_slice_nil (P := Tryd.prog) w 22 9 a l c Tryd.underlying22
  clear h hf hz
  go_enter Tryd.func39, Tryd.ntmps39
  go_wp2_with fail
  with_reducible refine h0.mono ?_
  rintro e w1 ⟨rfl, rfl⟩
  clear h0
  go_wp2_with fail
  with_reducible refine h1.mono ?_
  rintro e w1 ⟨rfl, rfl⟩
  clear h1
  go_wp2_with fail
  with_reducible refine hy.mono ?_
  clear hy
  rintro e w1 ⟨v, rfl, hb1, hown⟩
  rw [show (⟨args.toArray⟩ : ByteArray).data.toList = args from rfl, hsp] at hown
  obtain ⟨A, cap, rfl, hnc, _, hA, _⟩ := K.lies_of_own hown
  obtain ⟨ab, ao, rfl, hab, hcs⟩ := hA (by simp)
  have c0 : w1.cell? ⟨ab, ao, none⟩ = some (.string ⟨la.toArray⟩) := hcs 0 (by simp)
  have c1 : w1.cell? ⟨ab, ao + 1, none⟩ = some (.string ⟨lb.toArray⟩) := hcs 1 (by simp)
  have h54 := helper_any s ⟨la.toArray⟩ ⟨lb.toArray⟩ 4 ab ao cap w1 hab c0 c1 (by rw [mk_size]; exact ha) (by rw [mk_size]; exact hb) hda hdb
  rw [show (⟨la.toArray⟩ : ByteArray).data.toList = la from rfl, show (⟨lb.toArray⟩ : ByteArray).data.toList = lb from rfl] at h54
  rw [show [la, lb].length = 2 from rfl]
  clear hcs hA hown c0 c1 hda hdb hsp
  go_wp2_with fail
  with_reducible refine h54.mono ?_
  clear h54
  rintro e w2 ⟨g, c, rfl, hb2, hg, hL⟩
  rw [show (Kn.two 4 (dec la) (dec lb)).is.length = 1 from rfl] at hL ⊢
  go_wp2_with fail
  refine bodyPost_ret (v := .tuple #[.int .i16 4, .slice (some ⟨g, 0, none⟩) 1 c, .int .i32 (dec lb), .string ⟨#[]⟩, .nilIface]) (by simp [results, Tryd.results39, go_sem, Kn.two]) rfl ?_
  exact ⟨g, c, rfl, hb1.trans (hb2.mono hb1.size), Nat.le_trans hb1.size hg, hL⟩
set_option maxHeartbeats 8000000 in
set_option maxRecDepth 100000 in
theorem ph_splitFromRight (s : ByteArray) (fn args la lb : List UInt8) (w : World) (h : Mu s fn args) (hf : fn = [115, 112, 108, 105, 116, 70, 114, 111, 109, 82, 105, 103, 104, 116]) (hsp : sp 44 args = [la, lb]) (ha : la.length ≤ 9) (hb : lb.length ≤ 9) (hda : Digits la) (hdb : Digits lb) : Calls Tryd.prog 39 #[.string s] w (PhPost (Kn.two 5 (dec la) (dec lb)) w) := by
  have h0 := ga_miss h ⟨#[87, 105, 108, 100, 99, 97, 114, 100]⟩ w (by subst hf; decide) (by decide)
  have h1 := ga_miss h ⟨#[80, 97, 114, 116, 105, 116, 105, 111, 110]⟩ w (by subst hf; decide) (by decide)
  have h2 := ga_miss h ⟨#[83, 112, 108, 105, 116, 70, 114, 111, 109, 76, 101, 102, 116]⟩ w (by subst hf; decide) (by decide)
  have hy := ga_hit h ⟨#[83, 112, 108, 105, 116, 70, 114, 111, 109, 82, 105, 103, 104, 116]⟩ w (by subst hf; decide)
  obtain ⟨z, hz, hz4, ⟨l0, e0⟩, ⟨l1, e1⟩, ⟨l2, e2⟩, ⟨l3, e3⟩⟩ := h.ends
  have hl := h.len
  have q0 : (s.size : Int) - 2 = (z : Int) := by omega
  have q1 : (s.size : Int) - 1 = (z : Int) + 1 := by omega
  have q2 : ((z : Int) + 1).toNat = z + 1 := by omega
  have q3 : (4 : Int) < (s.size : Int) := by omega
  have HZ := Lib.hid hz
  have p0 : (z : Int) < (s.size : Int) := by omega
  have p1 : (z : Int) + 1 < (s.size : Int) := by omega
  have hnil := fun (w : World) (a : Option Addr) (l c : Nat) => run_neq_slice_nil (P := Tryd.prog) w 22 9 a l c Tryd.underlying22
  clear h hf hz
  go_enter Tryd.func39, Tryd.ntmps39
  go_wp2_with fail
  with_reducible refine h0.mono ?_
  rintro e w1 ⟨rfl, rfl⟩
  clear h0
  go_wp2_with fail
  with_reducible refine h1.mono ?_
  rintro e w1 ⟨rfl, rfl⟩
  clear h1
  go_wp2_with fail
  with_reducible refine h2.mono ?_
  rintro e w1 ⟨rfl, rfl⟩
  clear h2
  go_wp2_with fail
  with_reducible refine hy.mono ?_
  clear hy
  rintro e w1 ⟨v, rfl, hb1, hown⟩
  rw [show (⟨args.toArray⟩ : ByteArray).data.toList = args from rfl, hsp] at hown
  obtain ⟨A, cap, rfl, hnc, _, hA, _⟩ := K.lies_of_own hown
  obtain ⟨ab, ao, rfl, hab, hcs⟩ := hA (by simp)
  have c0 : w1.cell? ⟨ab, ao, none⟩ = some (.string ⟨la.toArray⟩) := hcs 0 (by simp)
  have c1 : w1.cell? ⟨ab, ao + 1, none⟩ = some (.string ⟨lb.toArray⟩) := hcs 1 (by simp)
  have h54 := helper_any s ⟨la.toArray⟩ ⟨lb.toArray⟩ 5 ab ao cap w1 hab c0 c1 (by rw [mk_size]; exact ha) (by rw [mk_size]; exact hb) hda hdb
  rw [show (⟨la.toArray⟩ : ByteArray).data.toList = la from rfl, show (⟨lb.toArray⟩ : ByteArray).data.toList = lb from rfl] at h54
  rw [show [la, lb].length = 2 from rfl]
  clear hcs hA hown c0 c1 hda hdb hsp
  go_wp2_with fail
  with_reducible refine h54.mono ?_
  clear h54
  rintro e w2 ⟨g, c, rfl, hb2, hg, hL⟩
  rw [show (Kn.two 5 (dec la) (dec lb)).is.length = 1 from rfl] at hL ⊢
  go_wp2_with fail
  refine bodyPost_ret (v := .tuple #[.int .i16 5, .slice (some ⟨g, 0, none⟩) 1 c, .int .i32 (dec lb), .string ⟨#[]⟩, .nilIface]) (by simp [results, Tryd.results39, go_sem, Kn.two]) rfl ?_
  exact ⟨g, c, rfl, hb1.trans (hb2.mono hb1.size), Nat.le_trans hb1.size hg, hL⟩
set_option maxHeartbeats 8000000 in
set_option maxRecDepth 100000 in
theorem ph_sliceFromLeft (s : ByteArray) (fn args la lb : List UInt8) (w : World) (h : Mu s fn args) (hf : fn = [115, 108, 105, 99, 101, 70, 114, 111, 109, 76, 101, 102, 116]) (hsp : sp 44 args = [la, lb]) (ha : la.length ≤ 9) (hb : lb.length ≤ 9) (hda : Digits la) (hdb : Digits lb) : Calls Tryd.prog 39 #[.string s] w (PhPost (Kn.two 6 (dec la) (dec lb)) w) := by
  have h0 := ga_miss h ⟨#[87, 105, 108, 100, 99, 97, 114, 100]⟩ w (by subst hf; decide) (by decide)
  have h1 := ga_miss h ⟨#[80, 97, 114, 116, 105, 116, 105, 111, 110]⟩ w (by subst hf; decide) (by decide)
  have h2 := ga_miss h ⟨#[83, 112, 108, 105, 116, 70, 114, 111, 109, 76, 101, 102, 116]⟩ w (by subst hf; decide) (by decide)
  have h3 := ga_miss h ⟨#[83, 112, 108, 105, 116, 70, 114, 111, 109, 82, 105, 103, 104, 116]⟩ w (by subst hf; decide) (by decide)
  have hy := ga_hit h ⟨#[83, 108, 105, 99, 101, 70, 114, 111, 109, 76, 101, 102, 116]⟩ w (by subst hf; decide)
  obtain ⟨z, hz, hz4, ⟨l0, e0⟩, ⟨l1, e1⟩, ⟨l2, e2⟩, ⟨l3, e3⟩⟩ := h.ends
  have hl := h.len
  have q0 : (s.size : Int) - 2 = (z : Int) := by omega
  have q1 : (s.size : Int) - 1 = (z : Int) + 1 := by omega
  have q2 : ((z : Int) + 1).toNat = z + 1 := by omega
  have q3 : (4 : Int) < (s.size : Int) := by omega
  have HZ := Lib.hid hz
  have p0 : (z : Int) < (s.size : Int) := by omega
  have p1 : (z : Int) + 1 < (s.size : Int) := by omega
  have hnil := fun (w : World) (a : Option Addr) (l c : Nat) => run_neq_slice_nil (P := Tryd.prog) w 22 9 a l c Tryd.underlying22
  clear h hf hz
  go_enter Tryd.func39, Tryd.ntmps39
  go_wp2_with fail
  with_reducible refine h0.mono ?_
  rintro e w1 ⟨rfl, rfl⟩
  clear h0
  go_wp2_with fail
  with_reducible refine h1.mono ?_
  rintro e w1 ⟨rfl, rfl⟩
  clear h1
  go_wp2_with fail
  with_reducible refine h2.mono ?_
  rintro e w1 ⟨rfl, rfl⟩
  clear h2
  go_wp2_with fail
  with_reducible refine h3.mono ?_
  rintro e w1 ⟨rfl, rfl⟩
  clear h3
  go_wp2_with fail
  with_reducible refine hy.mono ?_
  clear hy
  rintro e w1 ⟨v, rfl, hb1, hown⟩
  rw [show (⟨args.toArray⟩ : ByteArray).data.toList = args from rfl, hsp] at hown
  obtain ⟨A, cap, rfl, hnc, _, hA, _⟩ := K.lies_of_own hown
  obtain ⟨ab, ao, rfl, hab, hcs⟩ := hA (by simp)
  have c0 : w1.cell? ⟨ab, ao, none⟩ = some (.string ⟨la.toArray⟩) := hcs 0 (by simp)
  have c1 : w1.cell? ⟨ab, ao + 1, none⟩ = some (.string ⟨lb.toArray⟩) := hcs 1 (by simp)
  have h54 := helper_any s ⟨la.toArray⟩ ⟨lb.toArray⟩ 6 ab ao cap w1 hab c0 c1 (by rw [mk_size]; exact ha) (by rw [mk_size]; exact hb) hda hdb
  rw [show (⟨la.toArray⟩ : ByteArray).data.toList = la from rfl, show (⟨lb.toArray⟩ : ByteArray).data.toList = lb from rfl] at h54
  rw [show [la, lb].length = 2 from rfl]
  clear hcs hA hown c0 c1 hda hdb hsp
  go_wp2_with fail
  with_reducible refine h54.mono ?_
  clear h54
  rintro e w2 ⟨g, c, rfl, hb2, hg, hL⟩
  rw [show (Kn.two 6 (dec la) (dec lb)).is.length = 1 from rfl] at hL ⊢
  go_wp2_with fail
  refine bodyPost_ret (v := .tuple #[.int .i16 6, .slice (some ⟨g, 0, none⟩) 1 c, .int .i32 (dec lb), .string ⟨#[]⟩, .nilIface]) (by simp [results, Tryd.results39, go_sem, Kn.two]) rfl ?_
  exact ⟨g, c, rfl, hb1.trans (hb2.mono hb1.size), Nat.le_trans hb1.size hg, hL⟩
set_option maxHeartbeats 8000000 in
set_option maxRecDepth 100000 in
theorem ph_sliceFromRight (s : ByteArray) (fn args la lb : List UInt8) (w : World) (h : Mu s fn args) (hf : fn = [115, 108, 105, 99, 101, 70, 114, 111, 109, 82, 105, 103, 104, 116]) (hsp : sp 44 args = [la, lb]) (ha : la.length ≤ 9) (hb : lb.length ≤ 9) (hda : Digits la) (hdb : Digits lb) : Calls Tryd.prog 39 #[.string s] w (PhPost (Kn.two 7 (dec la) (dec lb)) w) := by
  have h0 := ga_miss h ⟨#[87, 105, 108, 100, 99, 97, 114, 100]⟩ w (by subst hf; decide) (by decide)
  have h1 := ga_miss h ⟨#[80, 97, 114, 116, 105, 116, 105, 111, 110]⟩ w (by subst hf; decide) (by decide)
  have h2 := ga_miss h ⟨#[83, 112, 108, 105, 116, 70, 114, 111, 109, 76, 101, 102, 116]⟩ w (by subst hf; decide) (by decide)
  have h3 := ga_miss h ⟨#[83, 112, 108, 105, 116, 70, 114, 111, 109, 82, 105, 103, 104, 116]⟩ w (by subst hf; decide) (by decide)
  have h4 := ga_miss h ⟨#[83, 108, 105, 99, 101, 70, 114, 111, 109, 76, 101, 102, 116]⟩ w (by subst hf; decide) (by decide)
  have hy := ga_hit h ⟨#[83, 108, 105, 99, 101, 70, 114, 111, 109, 82, 105, 103, 104, 116]⟩ w (by subst hf; decide)
  obtain ⟨z, hz, hz4, ⟨l0, e0⟩, ⟨l1, e1⟩, ⟨l2, e2⟩, ⟨l3, e3⟩⟩ := h.ends
  have hl := h.len
  have q0 : (s.size : Int) - 2 = (z : Int) := by omega
  have q1 : (s.size : Int) - 1 = (z : Int) + 1 := by omega
  have q2 : ((z : Int) + 1).toNat = z + 1 := by omega
  have q3 : (4 : Int) < (s.size : Int) := by omega
  have HZ := Lib.hid hz
  have p0 : (z : Int) < (s.size : Int) := by omega
  have p1 : (z : Int) + 1 < (s.size : Int) := by omega
  have hnil := fun (w : World) (a : Option Addr) (l c : Nat) => run_neq_slice_nil (P := Tryd.prog) w 22 9 a l c Tryd.underlying22
  clear h hf hz
  go_enter Tryd.func39, Tryd.ntmps39
  go_wp2_with fail
  with_reducible refine h0.mono ?_
  rintro e w1 ⟨rfl, rfl⟩
  clear h0
  go_wp2_with fail
  with_reducible refine h1.mono ?_
  rintro e w1 ⟨rfl, rfl⟩
  clear h1
  go_wp2_with fail
  with_reducible refine h2.mono ?_
  rintro e w1 ⟨rfl, rfl⟩
  clear h2
  go_wp2_with fail
  with_reducible refine h3.mono ?_
  rintro e w1 ⟨rfl, rfl⟩
  clear h3
  go_wp2_with fail
  with_reducible refine h4.mono ?_
  rintro e w1 ⟨rfl, rfl⟩
  clear h4
  go_wp2_with fail
  with_reducible refine hy.mono ?_
  clear hy
  rintro e w1 ⟨v, rfl, hb1, hown⟩
  rw [show (⟨args.toArray⟩ : ByteArray).data.toList = args from rfl, hsp] at hown
  obtain ⟨A, cap, rfl, hnc, _, hA, _⟩ := K.lies_of_own hown
  obtain ⟨ab, ao, rfl, hab, hcs⟩ := hA (by simp)
  have c0 : w1.cell? ⟨ab, ao, none⟩ = some (.string ⟨la.toArray⟩) := hcs 0 (by simp)
  have c1 : w1.cell? ⟨ab, ao + 1, none⟩ = some (.string ⟨lb.toArray⟩) := hcs 1 (by simp)
  have h54 := helper_any s ⟨la.toArray⟩ ⟨lb.toArray⟩ 7 ab ao cap w1 hab c0 c1 (by rw [mk_size]; exact ha) (by rw [mk_size]; exact hb) hda hdb
  rw [show (⟨la.toArray⟩ : ByteArray).data.toList = la from rfl, show (⟨lb.toArray⟩ : ByteArray).data.toList = lb from rfl] at h54
  rw [show [la, lb].length = 2 from rfl]
  clear hcs hA hown c0 c1 hda hdb hsp
  go_wp2_with fail
  with_reducible refine h54.mono ?_
  clear h54
  rintro e w2 ⟨g, c, rfl, hb2, hg, hL⟩
  rw [show (Kn.two 7 (dec la) (dec lb)).is.length = 1 from rfl] at hL ⊢
  go_wp2_with fail
  refine bodyPost_ret (v := .tuple #[.int .i16 7, .slice (some ⟨g, 0, none⟩) 1 c, .int .i32 (dec lb), .string ⟨#[]⟩, .nilIface]) (by simp [results, Tryd.results39, go_sem, Kn.two]) rfl ?_
  exact ⟨g, c, rfl, hb1.trans (hb2.mono hb1.size), Nat.le_trans hb1.size hg, hL⟩
set_option maxHeartbeats 8000000 in
set_option maxRecDepth 100000 in
theorem ph_right (s : ByteArray) (fn args la lb : List UInt8) (w : World) (h : Mu s fn args) (hf : fn = [114, 105, 103, 104, 116]) (hsp : sp 44 args = [la, lb]) (ha : la.length ≤ 9) (hb : lb.length ≤ 9) (hda : Digits la) (hdb : Digits lb) : Calls Tryd.prog 39 #[.string s] w (PhPost (Kn.two 10 (dec la) (dec lb)) w) := by
  have h0 := ga_miss h ⟨#[87, 105, 108, 100, 99, 97, 114, 100]⟩ w (by subst hf; decide) (by decide)
  have h1 := ga_miss h ⟨#[80, 97, 114, 116, 105, 116, 105, 111, 110]⟩ w (by subst hf; decide) (by decide)
  have h2 := ga_miss h ⟨#[83, 112, 108, 105, 116, 70, 114, 111, 109, 76, 101, 102, 116]⟩ w (by subst hf; decide) (by decide)
  have h3 := ga_miss h ⟨#[83, 112, 108, 105, 116, 70, 114, 111, 109, 82, 105, 103, 104, 116]⟩ w (by subst hf; decide) (by decide)
  have h4 := ga_miss h ⟨#[83, 108, 105, 99, 101, 70, 114, 111, 109, 76, 101, 102, 116]⟩ w (by subst hf; decide) (by decide)
  have h5 := ga_miss h ⟨#[83, 108, 105, 99, 101, 70, 114, 111, 109, 82, 105, 103, 104, 116]⟩ w (by subst hf; decide) (by decide)
  have hy := ga_hit h ⟨#[82, 105, 103, 104, 116]⟩ w (by subst hf; decide)
  obtain ⟨z, hz, hz4, ⟨l0, e0⟩, ⟨l1, e1⟩, ⟨l2, e2⟩, ⟨l3, e3⟩⟩ := h.ends
  have hl := h.len
  have q0 : (s.size : Int) - 2 = (z : Int) := by omega
  have q1 : (s.size : Int) - 1 = (z : Int) + 1 := by omega
  have q2 : ((z : Int) + 1).toNat = z + 1 := by omega
  have q3 : (4 : Int) < (s.size : Int) := by omega
  have HZ := Lib.hid hz
  have p0 : (z : Int) < (s.size : Int) := by omega
  have p1 : (z : Int) + 1 < (s.size : Int) := by omega
  have hnil := fun (w : World) (a : Option Addr) (l c : Nat) => run_neq_slice_nil (P := Tryd.prog) w 22 9 a l c Tryd.underlying22
  clear h hf hz
  go_enter Tryd.func39, Tryd.ntmps39
  go_wp2_with fail
  with_reducible refine h0.mono ?_
  rintro e w1 ⟨rfl, rfl⟩
  clear h0
  go_wp2_with fail
  with_reducible refine h1.mono ?_
  rintro e w1 ⟨rfl, rfl⟩
  clear h1
  go_wp2_with fail
  with_reducible refine h2.mono ?_
  rintro e w1 ⟨rfl, rfl⟩
  clear h2
  go_wp2_with fail
  with_reducible refine h3.mono ?_
  rintro e w1 ⟨rfl, rfl⟩
  clear h3
  go_wp2_with fail
  with_reducible refine h4.mono ?_
  rintro e w1 ⟨rfl, rfl⟩
  clear h4
  go_wp2_with fail
  with_reducible refine h5.mono ?_
  rintro e w1 ⟨rfl, rfl⟩
  clear h5
  go_wp2_with fail
  with_reducible refine hy.mono ?_
  clear hy
  rintro e w1 ⟨v, rfl, hb1, hown⟩
  rw [show (⟨args.toArray⟩ : ByteArray).data.toList = args from rfl, hsp] at hown
  obtain ⟨A, cap, rfl, hnc, _, hA, _⟩ := K.lies_of_own hown
  obtain ⟨ab, ao, rfl, hab, hcs⟩ := hA (by simp)
  have c0 : w1.cell? ⟨ab, ao, none⟩ = some (.string ⟨la.toArray⟩) := hcs 0 (by simp)
  have c1 : w1.cell? ⟨ab, ao + 1, none⟩ = some (.string ⟨lb.toArray⟩) := hcs 1 (by simp)
  have h54 := helper_any s ⟨la.toArray⟩ ⟨lb.toArray⟩ 10 ab ao cap w1 hab c0 c1 (by rw [mk_size]; exact ha) (by rw [mk_size]; exact hb) hda hdb
  rw [show (⟨la.toArray⟩ : ByteArray).data.toList = la from rfl, show (⟨lb.toArray⟩ : ByteArray).data.toList = lb from rfl] at h54
  rw [show [la, lb].length = 2 from rfl]
  clear hcs hA hown c0 c1 hda hdb hsp
  go_wp2_with fail
  with_reducible refine h54.mono ?_
  clear h54
  rintro e w2 ⟨g, c, rfl, hb2, hg, hL⟩
  rw [show (Kn.two 10 (dec la) (dec lb)).is.length = 1 from rfl] at hL ⊢
  go_wp2_with fail
  refine bodyPost_ret (v := .tuple #[.int .i16 10, .slice (some ⟨g, 0, none⟩) 1 c, .int .i32 (dec lb), .string ⟨#[]⟩, .nilIface]) (by simp [results, Tryd.results39, go_sem, Kn.two]) rfl ?_
  exact ⟨g, c, rfl, hb1.trans (hb2.mono hb1.size), Nat.le_trans hb1.size hg, hL⟩
set_option maxHeartbeats 8000000 in
set_option maxRecDepth 100000 in
theorem ph_left (s : ByteArray) (fn args la lb : List UInt8) (w : World) (h : Mu s fn args) (hf : fn = [108, 101, 102, 116]) (hsp : sp 44 args = [la, lb]) (ha : la.length ≤ 9) (hb : lb.length ≤ 9) (hda : Digits la) (hdb : Digits lb) : Calls Tryd.prog 39 #[.string s] w (PhPost (Kn.two 9 (dec la) (dec lb)) w) := by
  have h0 := ga_miss h ⟨#[87, 105, 108, 100, 99, 97, 114, 100]⟩ w (by subst hf; decide) (by decide)
  have h1 := ga_miss h ⟨#[80, 97, 114, 116, 105, 116, 105, 111, 110]⟩ w (by subst hf; decide) (by decide)
  have h2 := ga_miss h ⟨#[83, 112, 108, 105, 116, 70, 114, 111, 109, 76, 101, 102, 116]⟩ w (by subst hf; decide) (by decide)
  have h3 := ga_miss h ⟨#[83, 112, 108, 105, 116, 70, 114, 111, 109, 82, 105, 103, 104, 116]⟩ w (by subst hf; decide) (by decide)
  have h4 := ga_miss h ⟨#[83, 108, 105, 99, 101, 70, 114, 111, 109, 76, 101, 102, 116]⟩ w (by subst hf; decide) (by decide)
  have h5 := ga_miss h ⟨#[83, 108, 105, 99, 101, 70, 114, 111, 109, 82, 105, 103, 104, 116]⟩ w (by subst hf; decide) (by decide)
  have h6 := ga_miss h ⟨#[82, 105, 103, 104, 116]⟩ w (by subst hf; decide) (by decide)
  have hy := ga_hit h ⟨#[76, 101, 102, 116]⟩ w (by subst hf; decide)
  obtain ⟨z, hz, hz4, ⟨l0, e0⟩, ⟨l1, e1⟩, ⟨l2, e2⟩, ⟨l3, e3⟩⟩ := h.ends
  have hl := h.len
  have q0 : (s.size : Int) - 2 = (z : Int) := by omega
  have q1 : (s.size : Int) - 1 = (z : Int) + 1 := by omega
  have q2 : ((z : Int) + 1).toNat = z + 1 := by omega
  have q3 : (4 : Int) < (s.size : Int) := by omega
  have HZ := Lib.hid hz
  have p0 : (z : Int) < (s.size : Int) := by omega
  have p1 : (z : Int) + 1 < (s.size : Int) := by omega
  have hnil := fun (w : World) (a : Option Addr) (l c : Nat) => run_neq_slice_nil (P := Tryd.prog) w 22 9 a l c Tryd.underlying22
  clear h hf hz
  go_enter Tryd.func39, Tryd.ntmps39
  go_wp2_with fail
  with_reducible refine h0.mono ?_
  rintro e w1 ⟨rfl, rfl⟩
  clear h0
  go_wp2_with fail
  with_reducible refine h1.mono ?_
  rintro e w1 ⟨rfl, rfl⟩
  clear h1
  go_wp2_with fail
  with_reducible refine h2.mono ?_
  rintro e w1 ⟨rfl, rfl⟩
  clear h2
  go_wp2_with fail
  with_reducible refine h3.mono ?_
  rintro e w1 ⟨rfl, rfl⟩
  clear h3
  go_wp2_with fail
  with_reducible refine h4.mono ?_
  rintro e w1 ⟨rfl, rfl⟩
  clear h4
  go_wp2_with fail
  with_reducible refine h5.mono ?_
  rintro e w1 ⟨rfl, rfl⟩
  clear h5
  go_wp2_with fail
  with_reducible refine h6.mono ?_
  rintro e w1 ⟨rfl, rfl⟩
  clear h6
  go_wp2_with fail
  with_reducible refine hy.mono ?_
  clear hy
  rintro e w1 ⟨v, rfl, hb1, hown⟩
  rw [show (⟨args.toArray⟩ : ByteArray).data.toList = args from rfl, hsp] at hown
  obtain ⟨A, cap, rfl, hnc, _, hA, _⟩ := K.lies_of_own hown
  obtain ⟨ab, ao, rfl, hab, hcs⟩ := hA (by simp)
  have c0 : w1.cell? ⟨ab, ao, none⟩ = some (.string ⟨la.toArray⟩) := hcs 0 (by simp)
  have c1 : w1.cell? ⟨ab, ao + 1, none⟩ = some (.string ⟨lb.toArray⟩) := hcs 1 (by simp)
  have h54 := helper_any s ⟨la.toArray⟩ ⟨lb.toArray⟩ 9 ab ao cap w1 hab c0 c1 (by rw [mk_size]; exact ha) (by rw [mk_size]; exact hb) hda hdb
  rw [show (⟨la.toArray⟩ : ByteArray).data.toList = la from rfl, show (⟨lb.toArray⟩ : ByteArray).data.toList = lb from rfl] at h54
  rw [show [la, lb].length = 2 from rfl]
  clear hcs hA hown c0 c1 hda hdb hsp
  go_wp2_with fail
  with_reducible refine h54.mono ?_
  clear h54
  rintro e w2 ⟨g, c, rfl, hb2, hg, hL⟩
  rw [show (Kn.two 9 (dec la) (dec lb)).is.length = 1 from rfl] at hL ⊢
  go_wp2_with fail
  refine bodyPost_ret (v := .tuple #[.int .i16 9, .slice (some ⟨g, 0, none⟩) 1 c, .int .i32 (dec lb), .string ⟨#[]⟩, .nilIface]) (by simp [results, Tryd.results39, go_sem, Kn.two]) rfl ?_
  exact ⟨g, c, rfl, hb1.trans (hb2.mono hb1.size), Nat.le_trans hb1.size hg, hL⟩
set_option maxHeartbeats 8000000 in
set_option maxRecDepth 100000 in
theorem ph_wildcard (s : ByteArray) (fn la : List UInt8) (w : World) (h : Mu s fn la) (hf : fn = [119, 105, 108, 100, 99, 97, 114, 100]) (hsp : sp 44 la = [la]) (ha : la.length ≤ 9) (hda : Digits la) : Calls Tryd.prog 39 #[.string s] w (PhPost (Kn.wild (dec la)) w) := by
  obtain ⟨n, hn⟩ : ∃ n, dec la = n := ⟨_, rfl⟩
  rw [hn]
  have hy := ga_hit h ⟨#[87, 105, 108, 100, 99, 97, 114, 100]⟩ w (by subst hf; decide)
  obtain ⟨z, hz, hz4, ⟨l0, e0⟩, ⟨l1, e1⟩, ⟨l2, e2⟩, ⟨l3, e3⟩⟩ := h.ends
  have hl := h.len
  have q0 : (s.size : Int) - 2 = (z : Int) := by omega
  have q1 : (s.size : Int) - 1 = (z : Int) + 1 := by omega
  have q2 : ((z : Int) + 1).toNat = z + 1 := by omega
  have q3 : (4 : Int) < (s.size : Int) := by omega
  have HZ := Lib.hid hz
  have p0 : (z : Int) < (s.size : Int) := by omega
  have p1 : (z : Int) + 1 < (s.size : Int) := by omega
  have hnil := fun (w : World) (a : Option Addr) (l c : Nat) => run_neq_slice_nil (P := Tryd.prog) w 22 9 a l c Tryd.underlying22
  clear h hf hz
  go_enter Tryd.func39, Tryd.ntmps39
  go_wp2_with fail
  with_reducible refine hy.mono ?_
  clear hy
  rintro e w1 ⟨v, rfl, hb1, hown⟩
  rw [show (⟨la.toArray⟩ : ByteArray).data.toList = la from rfl, hsp] at hown
  obtain ⟨A, cap, rfl, hnc, _, hA, _⟩ := K.lies_of_own hown
  obtain ⟨ab, ao, rfl, hab, hcs⟩ := hA (by simp)
  obtain ⟨sa, hsa⟩ : ∃ sa : ByteArray, (⟨la.toArray⟩ : ByteArray) = sa := ⟨_, rfl⟩
  have c0 : w1.cell? ⟨ab, ao, none⟩ = some (.string sa) := by rw [← hsa]; exact hcs 0 (by simp)
  have hsd : sa.data.toList = la := by rw [← hsa]
  have hsz : sa.size ≤ 9 := by rw [← K.bsize, hsd]; exact ha
  have hd2 : Digits sa.data.toList := by rw [hsd]; exact hda
  have hne : sa.toList.isEmpty = false := by
    rw [ByteArray.toList_eq, hsd]
    exact List.isEmpty_eq_false_iff.2 hda.1
  have htr := trim_no sa w1 (by omega) hd2.bytes.1 hd2.bytes.2
  have hat := fun w => atoi_any sa w hsz hd2
  rw [hsd, hn] at hat
  rw [show [la].length = 1 from rfl]
  clear hcs hA hown hda hd2 hsp hsa hsd
  go_wp2_with fail
  with_reducible refine htr.mono ?_
  clear htr
  rintro e w2 ⟨rfl, hb2⟩
  go_wp2_with fail
  with_reducible refine (hat w2).mono ?_
  clear hat
  rintro e w3 ⟨rfl, hb3⟩
  have hb4 := hb1.trans ((hb2.mono hb1.size).trans (hb3.mono (Nat.le_trans hb1.size hb2.size)))
  clear hb2 hb3
  go_wp2_with fail
  refine bodyPost_ret (v := .tuple #[.int .i16 3, .slice (some ⟨w3.heap.size, 0, none⟩) 1 1, .int .i32 (-1), .string ⟨#[]⟩, .nilIface]) (by simp [results, Tryd.results39, go_sem]) rfl ?_
  exact ⟨_, _, rfl, hb4.alloc hb4.size _, hb4.size, lies_num w3 n⟩
/-- split at a mark -/
def Kn.cut (n : Nat) (m : ByteArray) : Kn := ⟨8, [(n : Int)], -1, m⟩
set_option maxHeartbeats 8000000 in
set_option maxRecDepth 100000 in
theorem ph_split (s : ByteArray) (fn args la lb : List UInt8) (w : World) (h : Mu s fn args) (hf : fn = [115, 112, 108, 105, 116]) (hsp : sp 44 args = [la, lb]) (ha : la.length ≤ 9) (hb : lb.length ≤ 9) (hda : Digits la) (hm : ∀ x ∈ lb, x ≠ 32 ∧ x ≠ 46) : Calls Tryd.prog 39 #[.string s] w (PhPost (Kn.cut (dec la) ⟨lb.toArray⟩) w) := by
  obtain ⟨n, hn⟩ : ∃ n, dec la = n := ⟨_, rfl⟩
  obtain ⟨sb, hsb⟩ : ∃ sb : ByteArray, (⟨lb.toArray⟩ : ByteArray) = sb := ⟨_, rfl⟩
  rw [hn, hsb]
  have h0 := ga_miss h ⟨#[87, 105, 108, 100, 99, 97, 114, 100]⟩ w (by subst hf; decide) (by decide)
  have h1 := ga_miss h ⟨#[80, 97, 114, 116, 105, 116, 105, 111, 110]⟩ w (by subst hf; decide) (by decide)
  have h2 := ga_miss h ⟨#[83, 112, 108, 105, 116, 70, 114, 111, 109, 76, 101, 102, 116]⟩ w (by subst hf; decide) (by decide)
  have h3 := ga_miss h ⟨#[83, 112, 108, 105, 116, 70, 114, 111, 109, 82, 105, 103, 104, 116]⟩ w (by subst hf; decide) (by decide)
  have h4 := ga_miss h ⟨#[83, 108, 105, 99, 101, 70, 114, 111, 109, 76, 101, 102, 116]⟩ w (by subst hf; decide) (by decide)
  have h5 := ga_miss h ⟨#[83, 108, 105, 99, 101, 70, 114, 111, 109, 82, 105, 103, 104, 116]⟩ w (by subst hf; decide) (by decide)
  have h6 := ga_miss h ⟨#[82, 105, 103, 104, 116]⟩ w (by subst hf; decide) (by decide)
  have h7 := ga_miss h ⟨#[76, 101, 102, 116]⟩ w (by subst hf; decide) (by decide)
  have hy := ga_hit h ⟨#[83, 112, 108, 105, 116]⟩ w (by subst hf; decide)
  obtain ⟨z, hz, hz4, ⟨l0, e0⟩, ⟨l1, e1⟩, ⟨l2, e2⟩, ⟨l3, e3⟩⟩ := h.ends
  have hl := h.len
  have q0 : (s.size : Int) - 2 = (z : Int) := by omega
  have q1 : (s.size : Int) - 1 = (z : Int) + 1 := by omega
  have q2 : ((z : Int) + 1).toNat = z + 1 := by omega
  have q3 : (4 : Int) < (s.size : Int) := by omega
  have HZ := Lib.hid hz
  have p0 : (z : Int) < (s.size : Int) := by omega
  have p1 : (z : Int) + 1 < (s.size : Int) := by omega
  have hnil := fun (w : World) (a : Option Addr) (l c : Nat) => run_neq_slice_nil (P := Tryd.prog) w 22 9 a l c Tryd.underlying22
  clear h hf hz
  go_enter Tryd.func39, Tryd.ntmps39
  go_wp2_with fail
  with_reducible refine h0.mono ?_
  rintro e w1 ⟨rfl, rfl⟩
  clear h0
  go_wp2_with fail
  with_reducible refine h1.mono ?_
  rintro e w1 ⟨rfl, rfl⟩
  clear h1
  go_wp2_with fail
  with_reducible refine h2.mono ?_
  rintro e w1 ⟨rfl, rfl⟩
  clear h2
  go_wp2_with fail
  with_reducible refine h3.mono ?_
  rintro e w1 ⟨rfl, rfl⟩
  clear h3
  go_wp2_with fail
  with_reducible refine h4.mono ?_
  rintro e w1 ⟨rfl, rfl⟩
  clear h4
  go_wp2_with fail
  with_reducible refine h5.mono ?_
  rintro e w1 ⟨rfl, rfl⟩
  clear h5
  go_wp2_with fail
  with_reducible refine h6.mono ?_
  rintro e w1 ⟨rfl, rfl⟩
  clear h6
  go_wp2_with fail
  with_reducible refine h7.mono ?_
  rintro e w1 ⟨rfl, rfl⟩
  clear h7
  go_wp2_with fail
  with_reducible refine hy.mono ?_
  clear hy
  rintro e w1 ⟨v, rfl, hb1, hown⟩
  rw [show (⟨args.toArray⟩ : ByteArray).data.toList = args from rfl, hsp] at hown
  obtain ⟨A, cap, rfl, hnc, _, hA, _⟩ := K.lies_of_own hown
  obtain ⟨ab, ao, rfl, hab, hcs⟩ := hA (by simp)
  obtain ⟨sa, hsa⟩ : ∃ sa : ByteArray, (⟨la.toArray⟩ : ByteArray) = sa := ⟨_, rfl⟩
  have c0 : w1.cell? ⟨ab, ao, none⟩ = some (.string sa) := by rw [← hsa]; exact hcs 0 (by simp)
  have c1 : w1.cell? ⟨ab, ao + 1, none⟩ = some (.string sb) := by rw [← hsb]; exact hcs 1 (by simp)
  have hsd : sa.data.toList = la := by rw [← hsa]
  have hsbd : sb.data.toList = lb := by rw [← hsb]
  have hsz : sa.size ≤ 9 := by rw [← K.bsize, hsd]; exact ha
  have hszb : sb.size ≤ 9 := by rw [← K.bsize, hsbd]; exact hb
  have hd2 : Digits sa.data.toList := by rw [hsd]; exact hda
  have htr := trim_no sa w1 (by omega) hd2.bytes.1 hd2.bytes.2
  have hat := fun w => atoi_any sa w hsz hd2
  have hm2 : ∀ c : UInt8, c = 32 ∨ c = 46 → ∀ j : Nat, sb.data.toList[j]? ≠ some c := by
    intro c hc j e
    rw [hsbd] at e
    have := hm c (List.mem_of_getElem? e)
    rcases hc with rfl | rfl
    · exact this.1 rfl
    · exact this.2 rfl
  have hk1 := fun w => contains_no sb 32 w (by omega) (hm2 32 (.inl rfl))
  have hk2 := fun w => contains_no sb 46 w (by omega) (hm2 46 (.inr rfl))
  rw [hsd, hn] at hat
  rw [show [la, lb].length = 2 from rfl]
  clear hcs hA hown hda hd2 hsp hsa hsd hsb hsbd hm hm2
  go_wp2_with fail
  with_reducible refine htr.mono ?_
  clear htr
  rintro e w2 ⟨rfl, hb2⟩
  go_wp2_with fail
  with_reducible refine (hat w2).mono ?_
  clear hat
  rintro e w3 ⟨rfl, hb3⟩
  have hb23 := hb2.trans (hb3.mono hb2.size)
  have hb4 := hb1.trans (hb23.mono hb1.size)
  have c2 : w3.cell? ⟨ab, ao + 1, none⟩ = some (.string sb) := (hb23.cell hab).trans c1
  have hb23s := hb23.size
  clear hb2 hb3 c0 c1 hb23
  go_wp2_with fail
  with_reducible refine (hk1 w3).mono ?_
  clear hk1
  rintro e w4 ⟨rfl, rfl⟩
  go_wp2_with fail
  with_reducible refine (hk2 w3).mono ?_
  clear hk2
  rintro e w4 ⟨rfl, rfl⟩
  go_wp2_with fail
  have hs3 := hb4.size
  have hc3 : ab < w3.heap.size := Nat.lt_of_lt_of_le hab hb23s
  go_region
  all_goals go_wp2_with fail
  all_goals refine bodyPost_ret (v := .tuple #[.int .i16 8, .slice (some ⟨w3.heap.size, 0, none⟩) 1 1, .int .i32 (-1), .string sb, .nilIface]) (by simp [results, Tryd.results39, go_sem]) rfl ?_
  all_goals exact ⟨_, _, rfl, (hb4.alloc hb4.size _).drew, hb4.size, lies_num w3 n⟩
end Go.Proofs.YtocfcajafkkhdaaDoor
end
/- Pp -/
section
namespace Go.Proofs.YtocfcajafkkhdaaDoor
open Go.RowKit

/-- a partition -/
def Kn.part (n : Nat) (ks : List Nat) : Kn := ⟨2, ks.map (fun (k : Nat) => (k : Int)), n, ⟨#[]⟩⟩
/-- the loop over the wildcards' numbers: what is written so far -/
def PtRel (g : Nat) (w1 : World) (ds : List Nat) (j : Nat) (wr : World) : Prop :=
  g < wr.heap.size ∧ w1.heap.size ≤ g ∧ Below w1.heap.size w1 wr ∧ (∀ i, i < ds.length → wr.cell? ⟨g, i, none⟩ = some (.int .i64 (if i < j then ((ds.getD i 0 : Nat) : Int) else 0))) ∧ ∀ o, wr.frozen? ⟨g, o, none⟩ = false
/-- a row of one's own is not shared -/
theorem own_thaw {w : World} {base : Nat} {e : TypeId} {g n c : Nat} {xs : List Value} (h : w.ownsRow base e 1 (.slice (some ⟨g, 0, none⟩) n c) n xs) : ∀ o, w.frozen? ⟨g, o, none⟩ = false := by
  rcases h.2 with ⟨h1, _⟩ | ⟨g2, cap, cur, h1, hb, hg, _, _, _, _⟩
  · cases h1
  · injection h1 with h2 h3 h4
    injection h2 with h2
    injection h2 with h2
    subst h2
    intro o
    simp [World.frozen?, hg]
theorem PtRel.below {g : Nat} {w1 : World} {ds : List Nat} {j : Nat} {wr wr2 : World} (h : PtRel g w1 ds j wr) (hb : Below wr.heap.size wr wr2) : PtRel g w1 ds j wr2 :=
  ⟨Nat.lt_of_lt_of_le h.1 hb.size, h.2.1, h.2.2.1.trans (hb.mono h.2.2.1.size), fun i hi => (hb.cell h.1).trans (h.2.2.2.1 i hi), fun o => (hb.frozen h.1).trans (h.2.2.2.2 o)⟩
theorem PtRel.put {g : Nat} {w1 : World} {ds : List Nat} {j : Nat} {wr : World} (h : PtRel g w1 ds j wr) (hj : j < ds.length) : PtRel g w1 ds (j + 1) (wr.setCell ⟨g, j, none⟩ (.int .i64 ((ds.getD j 0 : Nat) : Int))) := by
  refine ⟨by have := (h.2.2.1.setCell (p := ⟨g, j, none⟩) h.2.1 (.int .i64 ((ds.getD j 0 : Nat) : Int))).size; simpa [World.setCell] using h.1, h.2.1, h.2.2.1.setCell h.2.1 _, fun i hi => ?_, fun o => by rw [World.frozen?_setCell]; exact h.2.2.2.2 o⟩
  by_cases hij : i = j
  · subst hij
    rw [if_pos (by omega), World.cell?_setCell_same _ _ _ (h.2.2.2.1 i hj)]
  · rw [World.cell?_setCell_other _ _ _ _ (by intro e; injection e; omega)]
    rw [h.2.2.2.1 i hi]
    by_cases h1 : i < j
    · rw [if_pos h1, if_pos (by omega)]
    · rw [if_neg h1, if_neg (by omega)]
set_option maxHeartbeats 8000000 in
set_option maxRecDepth 100000 in
theorem ph_partition (s : ByteArray) (fn args la : List UInt8) (ls : List (List UInt8)) (w : World) (h : Mu s fn args) (hf : fn = [112, 97, 114, 116, 105, 116, 105, 111, 110]) (hsp : sp 44 args = la :: ls) (hne : ls ≠ []) (ha : la.length ≤ 9) (hda : Digits la) (hls : ∀ l ∈ ls, l.length ≤ 9 ∧ Digits l) : Calls Tryd.prog 39 #[.string s] w (PhPost (Kn.part (dec la) (ls.map dec)) w) := by
  obtain ⟨n, hn⟩ : ∃ n, dec la = n := ⟨_, rfl⟩
  obtain ⟨ds, hds⟩ : ∃ ds, ls.map dec = ds := ⟨_, rfl⟩
  rw [hn, hds]
  have hmd : ls.length = ds.length := by rw [← hds, List.length_map]
  have hmax : ds.length ≤ 1000 := by
    have h1 := sp_length 44 args
    have h2 := h.size
    have h3 := h.len
    rw [hsp] at h1
    simp at h1
    omega
  have h0 := ga_miss h ⟨#[87, 105, 108, 100, 99, 97, 114, 100]⟩ w (by subst hf; decide) (by decide)
  have hy := ga_hit h ⟨#[80, 97, 114, 116, 105, 116, 105, 111, 110]⟩ w (by subst hf; decide)
  obtain ⟨z, hz, hz4, ⟨l0, e0⟩, ⟨l1, e1⟩, ⟨l2, e2⟩, ⟨l3, e3⟩⟩ := h.ends
  have hl := h.len
  have q0 : (s.size : Int) - 2 = (z : Int) := by omega
  have q1 : (s.size : Int) - 1 = (z : Int) + 1 := by omega
  have q2 : ((z : Int) + 1).toNat = z + 1 := by omega
  have q3 : (4 : Int) < (s.size : Int) := by omega
  have HZ := Lib.hid hz
  have p0 : (z : Int) < (s.size : Int) := by omega
  have p1 : (z : Int) + 1 < (s.size : Int) := by omega
  have hnil := fun (w : World) (a : Option Addr) (l c : Nat) => run_neq_slice_nil (P := Tryd.prog) w 22 9 a l c Tryd.underlying22
  clear h hf hz
  go_enter Tryd.func39, Tryd.ntmps39
  go_wp2_with fail
  with_reducible refine h0.mono ?_
  rintro e w1 ⟨rfl, rfl⟩
  clear h0
  go_wp2_with fail
  with_reducible refine hy.mono ?_
  clear hy
  rintro e w1 ⟨v, rfl, hb1, hown⟩
  rw [show (⟨args.toArray⟩ : ByteArray).data.toList = args from rfl, hsp] at hown
  obtain ⟨A, cap, rfl, hnc, _, hA, _⟩ := K.lies_of_own hown
  obtain ⟨ab, ao, rfl, hab, hcs⟩ := hA (by simp)
  obtain ⟨sa, hsa⟩ : ∃ sa : ByteArray, (⟨la.toArray⟩ : ByteArray) = sa := ⟨_, rfl⟩
  have c0 : w1.cell? ⟨ab, ao, none⟩ = some (.string sa) := by rw [← hsa]; exact hcs 0 (by simp)
  have HCS := Lib.hid (show ∀ j (h : j < ls.length), w1.cell? ⟨ab, ao + 1 + j, none⟩ = some (sv ls[j]) from fun j h => by
    have := hcs (j + 1) (by simp; omega)
    rw [show ao + (j + 1) = ao + 1 + j from by omega] at this
    rw [this]
    simp [List.getD, h])
  have hsd : sa.data.toList = la := by rw [← hsa]
  have hsz : sa.size ≤ 9 := by rw [← K.bsize, hsd]; exact ha
  have hd2 : Digits sa.data.toList := by rw [hsd]; exact hda
  have htr := trim_no sa w1 (by omega) hd2.bytes.1 hd2.bytes.2
  have hat := fun w => atoi_any sa w hsz hd2
  have hnl := hd2.lt hsz
  rw [hsd, hn] at hat hnl
  have hlen : (la :: ls).length = ls.length + 1 := rfl
  have hm0 : 0 < ds.length := by rw [← hmd]; exact List.length_pos_iff.2 hne
  rw [hmd] at hlen
  rw [hlen] at hnc ⊢
  have HLS := Lib.hid (And.intro hls (And.intro hds hmd))
  clear hcs hA hown hda hd2 hsp hsa hsd hls hds hmd hlen hne
  go_wp2_with fail
  with_reducible refine htr.mono ?_
  clear htr
  rintro e w2 ⟨rfl, hb2⟩
  go_wp2_with fail
  with_reducible refine (hat w2).mono ?_
  clear hat
  rintro e w3 ⟨rfl, hb3⟩
  have hb13 := hb2.trans (hb3.mono hb2.size)
  clear hb2 hb3 c0
  obtain ⟨i0, hi0, hz0, hz1, hz2⟩ := info_parts info3
  have hsz3 : w1.heap.size ≤ w3.heap.size := hb13.size
  go_wp2_with (at_make; refine wpList_make_full w3 rfl (.tmp 180) (.tmp 180) 39 rfl w3.heap.size 3 i0 (.int .i64 0) 1 Tryd.underlying39 hi0 hz0 hz1 .i64 .i64 _ _ ds.length rfl rfl rfl rfl (by rw [hz2]; omega) (by unfold maxLen; omega) (Nat.le_refl _) ?_; intro w4 hown4 hgrow4; have HM := Lib.hid (And.intro hown4 hgrow4); clear hown4 hgrow4)
  obtain ⟨G, hG⟩ : ∃ G, w3.heap.size = G := ⟨_, rfl⟩
  have HP0 := Lib.hid (show PtRel G w1 ds 0 w4 from by
    obtain ⟨hown4, hgrow4⟩ := HM.out
    obtain ⟨A4, cap4, e4, _, _, hA4, _⟩ := K.lies_of_own hown4
    obtain ⟨ab4, ao4, e5, hab4, hcs4⟩ := hA4 hm0
    injection e4 with e6 e7 e8
    rw [← e6] at e5
    injection e5 with e5
    injection e5 with e9 e10
    subst e9
    subst e10
    rw [hG] at hab4 hcs4
    refine ⟨hab4, by omega, hb13.grown hgrow4 hsz3 (fun k hk => by cases hk), fun i hi => ?_, fun o => by have := own_thaw hown4 o; rw [hG] at this; exact this⟩
    have := hcs4 i hi
    rw [Nat.zero_add] at this
    rw [this]
    show some ((madeCells #[.int .i64 0] (ds.length * 1)).toList.getD i undef) = _
    rw [toList_madeCells_one]
    simp [List.getD, hi])
  rw [hG]
  clear HM
  go_loopg [185] (ds.length) (fun gk v wr => ∃ j : Nat, j ≤ ds.length ∧ gk = ds.length - j ∧ v = .int .i64 j ∧ Hid (PtRel G w1 ds j wr))
  case atStart => exact ⟨0, by omega, by omega, rfl, HP0⟩
  case round =>
    obtain ⟨j, hj, hg, rfl, H⟩ := hrel
    by_cases hlt : j < ds.length
    · have hjl : j < ls.length := by rw [HLS.out.2.2]; exact hlt
      obtain ⟨hx1, hx2⟩ := HLS.out.1 _ (List.getElem_mem hjl)
      have hxd : dec ls[j] = ds.getD j 0 := by rw [← HLS.out.2.1]; simp [List.getD, hjl]
      have c0 : wr.cell? ⟨ab, ao + 1 + j, none⟩ = some (sv ls[j]) := (H.out.2.2.1.cell hab).trans (HCS.out j hjl)
      generalize ls[j] = l at hx1 hx2 hxd c0
      obtain ⟨sa, hsa⟩ : ∃ sa : ByteArray, (⟨l.toArray⟩ : ByteArray) = sa := ⟨_, rfl⟩
      unfold sv at c0
      rw [hsa] at c0
      have hsd : sa.data.toList = l := by rw [← hsa]
      rw [← hsd] at hx1 hx2 hxd
      rw [K.bsize] at hx1
      have htr := trim_no sa wr (by omega) hx2.bytes.1 hx2.bytes.2
      have hat := fun w => atoi_any sa w hx1 hx2
      rw [hxd] at hat
      obtain ⟨x, hx⟩ : ∃ x, ds.getD j 0 = x := ⟨_, rfl⟩
      rw [hx] at hat
      have HX := Lib.hid hx
      clear hx hx1 hx2 hxd hsa hsd
      go_wp2_with fail
      with_reducible refine htr.mono ?_
      clear htr
      rintro e w5 ⟨rfl, hb5⟩
      go_wp2_with fail
      with_reducible refine (hat w5).mono ?_
      clear hat
      rintro e w6 ⟨rfl, hb6⟩
      have H6 := Lib.hid (H.out.below (hb5.trans (hb6.mono hb5.size)))
      have c6 := H6.out.2.2.2.1 j hlt
      have z6 := H6.out.2.2.2.2 j
      clear hb5 hb6 c0
      rw [if_neg (by omega)] at c6
      go_wp2_with fail
      go_roundg (gk - 1)
      case measure => omega
      case rel => exact ⟨j + 1, by omega, by omega, by go_num, Lib.hid (by rw [← HX.out]; exact H6.out.put hlt)⟩
    · obtain rfl : j = ds.length := by omega
      go_wp2_with fail
      refine bodyPost_ret (v := .tuple #[.int .i16 2, .slice (some ⟨G, 0, none⟩) ds.length ds.length, .int .i32 n, .string ⟨#[]⟩, .nilIface]) (by simp [results, Tryd.results39, go_sem]) rfl ?_
      have hL : K.Lies wr (some ⟨G, 0, none⟩) (Kn.part n ds).is.length (K.nums .i64 (Kn.part n ds).is) := by
        intro _
        refine ⟨G, 0, rfl, H.out.1, fun i hi => ?_⟩
        have hi2 : i < ds.length := by simpa [Kn.part] using hi
        rw [Nat.zero_add, H.out.2.2.2.1 i hi2, if_pos hi2]
        simp [K.nums, Kn.part, List.getD, hi2]
      have hl2 : (Kn.part n ds).is.length = ds.length := by simp [Kn.part]
      refine ⟨G, ds.length, by rw [hl2]; rfl, hb1.trans (H.out.2.2.1.mono hb1.size), Nat.le_trans hb1.size H.out.2.1, hL⟩
end Go.Proofs.YtocfcajafkkhdaaDoor
end
