/-
  encodeConsumerState, its end: what was delivered again.
-/
import Derived.Test.YtchphfdoneckeaaDoorEb
import Derived.Test.YtchphfdoneckeaaDoorKe
import Derived.Test.YtchphfdoneckeaaDoorCr
import Derived.BigQuiet
import Derived.BigRegion
import Derived.Deep.Cut
namespace Go.Proofs.YtchphfdoneckeaaDoor
open Go.RowKit Go.Lib
open Cs (Wt Kp Ag)

theorem RMap.size_eq {w : World} {b n : Nat} {D : DataW Unit} {l : List Ag} (h : RMap w b n D l) (hu : Cs.AUp l) : Maps.size D = l.length := by
  obtain ⟨es, rfl, hp, hk⟩ := h.own.entries K25
  have hper : (es.map (·.1)).Perm (l.map fun x => key x.s) := by
    refine (List.perm_ext_iff_of_nodup (List.pairwise_map.2 hp) ?_).2 fun kl => ?_
    · refine List.pairwise_map.2 (hu.imp fun {a b} hab e => ?_)
      have := key_inj e; omega
    · simp only [List.mem_map]
      constructor
      · rintro ⟨p, hp', rfl⟩
        obtain ⟨x, hx, e⟩ := h.only p.1 (by simp only [Maps.has_eq, List.any_eq_true]; exact ⟨p, hp', WideAt.sameKey_self (hk p hp')⟩)
        exact ⟨x, hx, e.symm⟩
      · rintro ⟨x, hx, rfl⟩
        have hh := h.has_of hx
        simp only [Maps.has_eq, List.any_eq_true] at hh
        obtain ⟨p, hp', e⟩ := hh
        obtain ⟨y, hy, e2⟩ := h.only p.1 (by simp only [Maps.has_eq, List.any_eq_true]; exact ⟨p, hp', WideAt.sameKey_self (hk p hp')⟩)
        rw [e2, same_key] at e
        refine ⟨p, hp', ?_⟩
        rw [e2, of_decide_eq_true e]
  have := hper.length_eq
  simpa [Maps.size] using this
theorem PMap.size_eq {w : World} {b n : Nat} {D : DataW Unit} {l : List Wt} (h : PMap w b n D l) (hu : Cs.Up l) : Maps.size D = l.length := by
  obtain ⟨es, rfl, hp, hk⟩ := h.own.entries K25
  have hper : (es.map (·.1)).Perm (l.map fun x => key x.s) := by
    refine (List.perm_ext_iff_of_nodup (List.pairwise_map.2 hp) ?_).2 fun kl => ?_
    · refine List.pairwise_map.2 (hu.imp fun {a b} hab e => ?_)
      have := key_inj e; omega
    · simp only [List.mem_map]
      constructor
      · rintro ⟨p, hp', rfl⟩
        obtain ⟨x, hx, e⟩ := h.only p.1 (by simp only [Maps.has_eq, List.any_eq_true]; exact ⟨p, hp', WideAt.sameKey_self (hk p hp')⟩)
        exact ⟨x, hx, e.symm⟩
      · rintro ⟨x, hx, rfl⟩
        have hh := h.has_of hx
        simp only [Maps.has_eq, List.any_eq_true] at hh
        obtain ⟨p, hp', e⟩ := hh
        obtain ⟨y, hy, e2⟩ := h.only p.1 (by simp only [Maps.has_eq, List.any_eq_true]; exact ⟨p, hp', WideAt.sameKey_self (hk p hp')⟩)
        rw [e2, same_key] at e
        refine ⟨p, hp', ?_⟩
        rw [e2, of_decide_eq_true e]
  have := hper.length_eq
  simpa [Maps.size] using this
theorem encAg_len {k : Kp} {x : Ag} (h : x.s < 18446744073709551616 ∧ x.n < 18446744073709551616) : (encAg k x).length ≤ 20 := by
  have h1 := uvarint_length64 (x := x.s - k.fs) (by omega)
  have h2 := uvarint_length64 h.2
  unfold encAg
  rw [List.length_append]; omega
theorem flat_len {α : Type} {f : α → List UInt8} {c : Nat} : ∀ (l : List α), (∀ x ∈ l, (f x).length ≤ c) → (l.flatMap f).length ≤ c * l.length
  | [], _ => by simp
  | x :: l, h => by
    rw [List.flatMap_cons, List.length_append, List.length_cons, Nat.mul_succ]
    have h1 := h x (by simp)
    have h2 := flat_len l (fun y hy => h y (List.mem_cons_of_mem _ hy))
    omega
/-- the second loop -/
structure E3Rel (w : World) (bb M it rb nm : Nat) (E : DataW Unit) (k : Kp) (ag : List Ag) (out : List UInt8) (left : Lit → Bool) (cnt : Nat) (ys : List Ag) (wr : World) : Prop where
  rg : wr.ranges Tryd.prog 25 NumE rb it nm E left cnt
  src : RMap wr rb nm E ag
  has : ∀ kl, left kl = true → Maps.has E kl = true
  enc : EncAt wr bb M (out ++ ys.flatMap (encAg k))
  perm : ys.Perm (comeA ag left)
  bt : But (fun j => j = bb) w wr

def p1 : Code → Code
  | .seq a _ => a
  | c => c
def p2 : Code → Code
  | .seq _ b => b
  | c => c
/-- from the count of what was delivered again on -/
noncomputable def rest33 : Code := p2 (p2 (p2 (p2 (p2 (p2 (p2 (p2 (p2 (p2 (p2 (p2 (p2 (p2 (p2 (p2 (p2 (p2 (Tryd.f35.body.getD .skip))))))))))))))))))
set_option maxHeartbeats 4000000 in
set_option maxRecDepth 1000000 in
theorem enc33 (S bb M o nm : Nat) (k : Kp) (ag : List Ag) (pv rv : Value) (out : List UInt8) (w : World) (x1 x2 x3 x5 x6 x7 x11 x12 x13 x14 x15 x16 x17 x18 x19 x20 x21 x22 x23 x24 x25 x26 x27 x28 x29 x30 x31 x32 x33 x34 x35 x36 x37 x38 x39 x40 x41 x42 x43 x44 x45 x46 x47 x48 x49 x50 x51 x52 x53 x54 x55 x56 x57 x58 x59 x60 x61 x62 x63 x64 x65 x66 x67 x68 x69 x70 x71 x72 x73 x74 x75 x76 x77 x78 x79 x80 x81 x82 x83 x84 x85 x86 x87 x88 x89 x90 x91 x92 x93 x94 x95 x96 x97 x98 x99 x100 x101 x102 x103 x104 x105 x106 x107 x108 x109 x110 x111 x112 x113 x114 x115 x116 x117 x118 x119 x120 x121 x122 x123 x124 x125 x126 x127 x128 x129 x130 x131 x132 x133 x134 x135 x136 x137 x138 x139 x140 x141 x142 x143 x144 x145 x146 x147 x148 x149 x150 x151 x152 x153 x154 x155 x156 x157 x158 x159 x160 x161 x162 x163 x164 x165 x166 x167 x168 x169 x170 x171 x172 x173 x174 x175 x176 x177 x178 x179 x180 x181 x182 x183 x184 x185 x186 x187 x188 x189 x190 x191 x192 x193 x194 x195 x196 x197 x198 x199 x200 x201 x202 x203 x204 x205 x206 x207 x208 x209 x210 x211 x212 x213 x214 x215 x216 x217 x218 x219 x220 : Value) (Post : Ending → World → Prop)
    (hK : KeptAt w S k pv rv) (hE : EncAt w bb M out) (ho : out.length = o) (hbS : bb ≠ S) (hM : o + 10 + 20 * ag.length ≤ M) (hM6 : M ≤ 1000000)
    (hQ : (ag = [] ∧ rv = .map none) ∨ ∃ rb E, rv = .map (some rb) ∧ RMap w rb nm E ag ∧ ag ≠ []) (hu : Cs.AUp ag) (hs : ∀ x ∈ ag, k.fs < x.s ∧ x.s < 9223372036854775808 ∧ x.n < 9223372036854775808)
    (hPost : ∀ (ys : List Ag) (w' : World), ys.Perm ag → EncAt w' bb M (out ++ uvarint ag.length ++ ys.flatMap (encAg k)) → But (fun j => j = bb) w w' → Post (.returned (.slice (some ⟨bb, 0, none⟩) (out ++ uvarint ag.length ++ ys.flatMap (encAg k)).length M)) w') :
    Code.wp Tryd.prog rest33 (bodyPost Tryd.prog Tryd.f35 Post) ⟨#[.pointer (some ⟨S, 0, none⟩), x1, x2, x3, .slice (some ⟨bb, 0, none⟩) M M, x5, x6, x7, .int .i64 (o : Int), .int .u64 (k.fs : Int), .int .u64 (k.fc : Int), x11, x12, x13, x14, x15, x16, x17, x18, x19, x20, x21, x22, x23, x24, x25, x26, x27, x28, x29, x30, x31, x32, x33, x34, x35, x36, x37, x38, x39, x40, x41, x42, x43, x44, x45, x46, x47, x48, x49, x50, x51, x52, x53, x54, x55, x56, x57, x58, x59, x60, x61, x62, x63, x64, x65, x66, x67, x68, x69, x70, x71, x72, x73, x74, x75, x76, x77, x78, x79, x80, x81, x82, x83, x84, x85, x86, x87, x88, x89, x90, x91, x92, x93, x94, x95, x96, x97, x98, x99, x100, x101, x102, x103, x104, x105, x106, x107, x108, x109, x110, x111, x112, x113, x114, x115, x116, x117, x118, x119, x120, x121, x122, x123, x124, x125, x126, x127, x128, x129, x130, x131, x132, x133, x134, x135, x136, x137, x138, x139, x140, x141, x142, x143, x144, x145, x146, x147, x148, x149, x150, x151, x152, x153, x154, x155, x156, x157, x158, x159, x160, x161, x162, x163, x164, x165, x166, x167, x168, x169, x170, x171, x172, x173, x174, x175, x176, x177, x178, x179, x180, x181, x182, x183, x184, x185, x186, x187, x188, x189, x190, x191, x192, x193, x194, x195, x196, x197, x198, x199, x200, x201, x202, x203, x204, x205, x206, x207, x208, x209, x210, x211, x212, x213, x214, x215, x216, x217, x218, x219, x220], []⟩ w := by
  have HP := Lib.hid hPost
  have HU := Lib.hid (And.intro hu hs)
  have HKE := Lib.hid (And.intro hK hE)
  have HO := Lib.hid ho
  have HM := Lib.hid hM
  have hoM : (o : Int) ≤ (M : Int) := by omega
  have hoM' : ¬ ((o : Int) = (M : Int)) := by omega
  have hoM2 : ¬ (o = M) := by omega
  have ho0 : (0 : Int) ≤ (o : Int) := by omega
  have hM0 : (M : Int) ≤ 1000000 := by omega
  have c5 := hK.c5
  clear hPost hu hs hK ho hM
  conv => arg 2; whnf
  rcases hQ with ⟨ha, hrv⟩ | ⟨rb, E, hrv, hR, ha⟩
  · subst hrv
    have HA := Lib.hid ha
    subst ha
    have hln2 := fun (w : World) (ty : TypeId) => Maps.len_nil (w := w) Tryd.underlying80 ty
    have HC : Hid (∀ (nn cc : Nat) (z : Int) (W : World), nn = M - o → z = ((0 : Nat) : Int) → W = w.drew → Calls Tryd.prog 51 #[.slice (some ⟨bb, o, none⟩) nn cc, .int .u64 z] W (PutPost bb M out (uvarint 0) W)) := Lib.hid fun nn cc z W hn hz hW => by
      subst hW
      subst hz
      exact put_u (x := 0) (hE.but ((But.refl (fun _ => False) w).drew) (fun h => h)) HO.out hn (by decide) (by have := HM.out; simp at this; omega)
    clear hE
    go_wp2_with fail
    go_region_with (go_at_call 51; (with_reducible refine (HC.out _ _ _ _ ?hn ?hz ?hw).mono ?_); (case hn => omega); (case hz => (rw [IntKind.wrap_u64]; rfl)); (case hw => rfl); rintro e w3 ⟨rfl, h3, hb3⟩; (have d5 : w3.cell? ⟨S, 5, none⟩ = some (.map none) := cell_of ((hb3.block S (lt_of_heap HKE.out.1) (fun e => hbS e.symm)).trans HKE.out.1) rfl); (have H3 := Lib.hid (And.intro h3 hb3)); clear h3 hb3)
    obtain ⟨l3, hl3⟩ : ∃ l3, (uvarint 0).length = l3 := ⟨_, rfl⟩
    have hl3' : l3 ≤ 10 := by rw [← hl3]; exact uvarint_length64 (by decide)
    rw [hl3]
    have q1 : (o : Int) + (l3 : Int) ≤ (M : Int) := by have := HM.out; simp at this; omega
    have q2 : (0 : Int) ≤ (o : Int) + (l3 : Int) := by omega
    clear c5
    go_wp2_with fail
    have hR := HP.out [] w3 (List.Perm.refl _) (by rw [List.flatMap_nil, List.append_nil]; exact H3.out.1) (((But.refl (fun j => j = bb) w).drew).trans H3.out.2)
    rw [List.flatMap_nil, List.append_nil, List.length_append, HO.out, show ([] : List Ag).length = 0 from rfl, hl3] at hR
    exact hR
  · subst hrv
    have hsz := hR.size_eq HU.out.1
    have hpos : 0 < ag.length := List.length_pos_iff.2 ha
    obtain ⟨na, hna⟩ : ∃ na, ag.length = na := ⟨_, rfl⟩
    rw [hna] at hsz hpos
    have hna2 : na ≤ 1000000 := by have := HM.out; omega
    have hlnD := fun ty => hR.own.drew.len Tryd.underlying80 ty
    rw [hsz] at hlnD
    have HC : Hid (∀ (nn cc : Nat) (z : Int) (W : World), nn = M - o → z = (na : Int) → W = w.drew → Calls Tryd.prog 51 #[.slice (some ⟨bb, o, none⟩) nn cc, .int .u64 z] W (PutPost bb M out (uvarint na) W)) := Lib.hid fun nn cc z W hn hz hW => by
      subst hW
      subst hz
      exact put_u (x := na) (hE.but ((But.refl (fun _ => False) w).drew) (fun h => h)) HO.out hn (by omega) (by have := HM.out; omega)
    have hbr : rb ≠ bb := fun e => by
      obtain ⟨es, clock, hm, _⟩ := hR.own
      have h1 := (hE.there 0 (by have := HM.out; omega)).1
      subst e
      simp [World.cell?, hm] at h1
    have HR := Lib.hid (And.intro hR (And.intro hna (And.intro hsz (And.intro ha hbr))))
    clear hE hR hna hsz ha
    go_wp2_with fail
    go_region_with (go_at_call 51; (with_reducible refine (HC.out _ _ _ _ ?hn ?hz ?hw).mono ?_); (case hn => omega); (case hz => (rw [IntKind.wrap_u64]; omega)); (case hw => rfl); rintro e w3 ⟨rfl, h3, hb3⟩; (have d5 : w3.cell? ⟨S, 5, none⟩ = some (.map (some rb)) := cell_of ((hb3.block S (lt_of_heap HKE.out.1) (fun e => hbS e.symm)).trans HKE.out.1) rfl); (have H3 := Lib.hid (And.intro h3 hb3)); clear h3 hb3)
    have hR3 : RMap w3 rb nm E ag := (HR.out.1.but ((But.refl (fun _ => False) w).drew) (fun h => h)).but H3.out.2 HR.out.2.2.2.2
    obtain ⟨l3, hl3⟩ : ∃ l3, (uvarint na).length = l3 := ⟨_, rfl⟩
    have hl3' : l3 ≤ 10 := by rw [← hl3]; exact uvarint_length64 (by omega)
    rw [hl3]
    have hown3 := hR3.own
    have hln3 := fun ty => hown3.len Tryd.underlying80 ty
    rw [HR.out.2.2.1] at hln3
    have hz : (0 : Int) < (na : Int) := by omega
    have q1 : (o : Int) + (l3 : Int) ≤ (M : Int) := by have := HM.out; rw [HR.out.2.1] at this; omega
    have q2 : (0 : Int) ≤ (o : Int) + (l3 : Int) := by omega
    have HL3 := Lib.hid (And.intro hl3 (And.intro hl3' hR3))
    clear c5 hR3 hl3 hl3' hlnD h
    go_wp2_with (first | (at_range; refine wpList_range_own _ rfl _ 80 rfl 25 25 K25 Tryd.underlying80 NumE rb nm E rfl hown3 ?_; intro wk hrgk hgk hsk) | go_in)
    go_frame
    have HGK := Lib.hid (And.intro hrgk (And.intro hgk hsk))
    clear hrgk hgk hsk hown3 hln3 d5
    generalize hIT : w3.heap.size = it at HGK ⊢
    have HIT := Lib.hid hIT
    clear hIT
    go_loopw [8, 15, 16] (fun nv _ _ wr => ∃ (left : Lit → Bool) (cnt : Nat) (ys : List Ag) (oo : Nat), nv = .int .i64 (oo : Int) ∧ Hid ((out ++ uvarint na ++ ys.flatMap (encAg k)).length = oo ∧ E3Rel w3 bb M it rb nm E k ag (out ++ uvarint na) left cnt ys wr)) (fun _ _ _ wr => wr.rangeLeft rb it)
    case atStart =>
      obtain ⟨hrgk, hgk, hsk⟩ := HGK.out
      have hbk : But (fun _ => False) w3 wk := (But.refl _ w3).grown hgk (fun _ h => by cases h)
      refine ⟨_, _, [], o + l3, by go_num, Lib.hid ⟨by rw [List.flatMap_nil, List.append_nil, List.length_append, HO.out, HL3.out.1], hrgk, HL3.out.2.2.but hbk (fun h => h), fun _ h => h, by rw [List.flatMap_nil, List.append_nil]; exact H3.out.1.but hbk (fun h => h), ?_, hbk.mono (fun _ _ h => h.elim)⟩⟩
      rw [comeA_start (fun x hx => HL3.out.2.2.has_of hx)]
    case round =>
      obtain ⟨left, cnt, ys, oo, rfl, HREL⟩ := hrel
      go_wp2_with (first
        | (at_next; refine wpList_next_redel _ rfl _ rfl rb it nm E left cnt ag rfl HREL.out.2.src HREL.out.2.rg HREL.out.2.has ?_ ?_)
        | go_in)
      · intro hc0 hl0
        as_aux_lemma =>
        have hperm := HREL.out.2.perm
        rw [comeA_end hl0] at hperm
        have hoo := HREL.out.2.enc.le
        rw [HREL.out.1] at hoo
        have s1 : (oo : Int) ≤ (M : Int) := by omega
        have s0 : (0 : Int) ≤ (oo : Int) := by omega
        have hbT : But (fun j => j = bb) w wr := (((But.refl (fun j => j = bb) w).drew).trans H3.out.2).trans HREL.out.2.bt
        have hR := HP.out ys wr hperm (by rw [HR.out.2.1]; exact HREL.out.2.enc) hbT
        rw [HR.out.2.1, HREL.out.1] at hR
        have HRR := Lib.hid hR
        clear hperm hoo hbT hR hc0 hl0
        go_wp2_with fail
        exact HRR.out
      · intro x w1 cnt1 hx hlx hrg1 hlt hg1 hs1 hen
        as_aux_lemma =>
        have hst := permA_step HU.out.1 HREL.out.2.perm hx hlx
        have hyl : ys.length + 1 ≤ na := by
          have h1 := hst.length_eq
          have h2 := comeA_length ag (fun z => left z && !z.sameKey (key x.s))
          have h3 := HR.out.2.1
          rw [List.length_append, List.length_singleton] at h1
          omega
        have hxs := HU.out.2 x hx
        have hfl := flat_len (f := encAg k) (c := 20) ys (fun y hy => encAg_len (by
          have := HU.out.2 y ((List.mem_filter.1 (HREL.out.2.perm.mem_iff.1 hy)).1); omega))
        have hol := HREL.out.1
        rw [List.length_append, List.length_append, HO.out, HL3.out.1] at hol
        have hMM := HM.out
        rw [HR.out.2.1] at hMM
        have hl10 := HL3.out.2.1
        have hMo : oo + 20 ≤ M := by omega
        have hg1b : But (fun _ => False) wr w1 ∨ True := Or.inr trivial
        have hitb : it ≠ bb := by have := HIT.out; have := H3.out.1.lt; omega
        have henc1 : EncAt w1 bb M (out ++ uvarint na ++ ys.flatMap (encAg k)) := HREL.out.2.enc.but ((But.refl (fun j => j = it) wr).grown hg1 (fun q hq _ => (Option.some.inj hq).symm)) (fun e => hitb e.symm)
        have h51a : Hid (∀ (nn cc : Nat) (z : Int), nn = M - oo → z = ((x.s - k.fs : Nat) : Int) → Calls Tryd.prog 51 #[.slice (some ⟨bb, oo, none⟩) nn cc, .int .u64 z] w1 (PutPost bb M (out ++ uvarint na ++ ys.flatMap (encAg k)) (uvarint (x.s - k.fs)) w1)) := Lib.hid fun nn cc z hn hz => by
          subst hz
          exact put_u henc1 HREL.out.1 hn (by omega) (by omega)
        have s0 : (0 : Int) ≤ (oo : Int) := by omega
        have s1 : (oo : Int) ≤ (M : Int) := by omega
        have s2 : ¬ (oo = M) := by omega
        have s3 : ¬ ((oo : Int) = (M : Int)) := by omega
        have HX := Lib.hid (And.intro hx (And.intro hlx (And.intro hrg1 (And.intro hlt (And.intro hg1 (And.intro hs1 (And.intro hst (And.intro hxs hMo))))))))
        clear hx hlx hrg1 hlt hg1 hs1 hst hxs hyl hfl hol hMM hl10 hMo hg1b henc1
        go_wp2_with fail
        (with_reducible refine (h51a.out _ _ _ ?hn ?hz).mono ?_)
        case hn => omega
        case hz => (have := HX.out.2.2.2.2.2.2.2.1; rw [IntKind.wrap_u64]; omega)
        rintro e w2 ⟨rfl, h2, hb2⟩
        obtain ⟨l1, hl1⟩ : ∃ l1, (uvarint (x.s - k.fs)).length = l1 := ⟨_, rfl⟩
        have hl1' : l1 ≤ 10 := by rw [← hl1]; exact uvarint_length64 (by have := HX.out.2.2.2.2.2.2.2.1; omega)
        rw [hl1]
        have h51b : Hid (∀ (nn cc : Nat), nn = M - (oo + l1) → Calls Tryd.prog 51 #[.slice (some ⟨bb, oo + l1, none⟩) nn cc, .int .u64 (x.n : Int)] w2 (PutPost bb M (out ++ uvarint na ++ ys.flatMap (encAg k) ++ uvarint (x.s - k.fs)) (uvarint x.n) w2)) := Lib.hid fun nn cc hn => by
          exact put_u h2 (by rw [List.length_append, HREL.out.1, hl1]) hn (by have := HX.out.2.2.2.2.2.2.2.1; omega) (by have := HX.out.2.2.2.2.2.2.2.2; omega)
        have t0 : (0 : Int) ≤ (oo : Int) + (l1 : Int) := by omega
        have t1 : (oo : Int) + (l1 : Int) ≤ (M : Int) := by have := HX.out.2.2.2.2.2.2.2.2; omega
        have t2 : ¬ (oo + l1 = M) := by have := HX.out.2.2.2.2.2.2.2.2; omega
        have t3 : ¬ ((oo : Int) + (l1 : Int) = (M : Int)) := by have := HX.out.2.2.2.2.2.2.2.2; omega
        have H2 := Lib.hid (And.intro hl1 (And.intro h2 hb2))
        clear h2 hb2 hl1 s2 s3 h51a
        go_wp2_with fail
        (with_reducible refine (h51b.out _ _ ?hn).mono ?_)
        case hn => rfl
        rintro e w4 ⟨rfl, h4, hb4⟩
        obtain ⟨l2, hl2⟩ : ∃ l2, (uvarint x.n).length = l2 := ⟨_, rfl⟩
        have hl2' : l2 ≤ 10 := by rw [← hl2]; exact uvarint_length64 (by have := HX.out.2.2.2.2.2.2.2.1; omega)
        rw [hl2]
        have u1 : (oo : Int) + (l1 : Int) + (l2 : Int) ≤ (M : Int) := by have := HX.out.2.2.2.2.2.2.2.2; omega
        have u0 : (0 : Int) ≤ (oo : Int) + (l1 : Int) + (l2 : Int) := by omega
        have hbb : But (fun j => j = bb) w1 w4 := H2.out.2.2.trans hb4
        have hgr := hbb.grownBy (row := some bb) (fun j hj => by rw [hj])
        have hg1 := HX.out.2.2.2.2.1
        have hrbl := HL3.out.2.2.own.lt
        have hrel : E3Rel w3 bb M it rb nm E k ag (out ++ uvarint na) (fun z => left z && !z.sameKey (key x.s)) cnt1 (ys ++ [x]) w4 :=
          { rg := HX.out.2.2.1.kept hgr (fun e => hbr (Option.some.inj e)) (fun e => hitb (Option.some.inj e))
            src := (HREL.out.2.src.but ((But.refl (fun j => j = it) wr).grown hg1 (fun q hq _ => (Option.some.inj hq).symm)) (fun e => by have := HIT.out; omega)).but hbb hbr
            has := fun kl h => HREL.out.2.has kl (by simp at h; exact h.1)
            enc := by
              have e : out ++ uvarint na ++ (ys ++ [x]).flatMap (encAg k) = out ++ uvarint na ++ ys.flatMap (encAg k) ++ uvarint (x.s - k.fs) ++ uvarint x.n := by
                simp [List.flatMap_append, encAg, List.append_assoc]
              rw [e]
              exact h4
            perm := HX.out.2.2.2.2.2.2.1
            bt := (HREL.out.2.bt.grown hg1 (fun q hq hlt => by have := Option.some.inj hq; have := HIT.out; omega)).trans hbb }
        have hlen : (out ++ uvarint na ++ (ys ++ [x]).flatMap (encAg k)).length = oo + l1 + l2 := by
          have e : out ++ uvarint na ++ (ys ++ [x]).flatMap (encAg k) = out ++ uvarint na ++ ys.flatMap (encAg k) ++ uvarint (x.s - k.fs) ++ uvarint x.n := by
            simp [List.flatMap_append, encAg, List.append_assoc]
          rw [e, List.length_append, List.length_append, HREL.out.1, H2.out.1, hl2]
        have hm1 := hrel.rg.left_eq
        have hm0 := HREL.out.2.rg.left_eq
        have HF := Lib.hid (And.intro hlen hrel)
        have HLT := Lib.hid HX.out.2.2.2.1
        clear h4 hb4 hl2 hbb hgr hg1 hrbl hrel hlen h51b t2 t3
        go_wp2_with fail
        exact ⟨⟨_, cnt1, _, oo + l1 + l2, by go_num, HF⟩, by rw [hm1, hm0]; exact HLT.out⟩
end Go.Proofs.YtchphfdoneckeaaDoor
