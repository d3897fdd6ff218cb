/-
  DERIVED: THE SHELF's CONTRACTS AT THIS DUMP, IN PLAIN WORDS (tools/lay-plain.mjs out of 'TrydShelf.lean', which tools/lay-shelf.mjs wrote): THE SAME DECLARATIONS UNDER THE SAME NAMES: 'import', 'namespace', 'open', 'def', 'theorem' AND NOTHING ELSE: no command of the shelf's: FOR A HAND-IN. Each laying: the table of numbers ('.._ren') and one theorem, a field a fact of the dump's own or the kernel's comparison; each contract: ONE APPLICATION.
-/
import Derived.Shelf.Small.Bits
import Derived.Shelf.Strconv.Itoa0
import Derived.Ground.MnProg
import Derived.Shelf.Bin.PutUvarint
import Derived.Shelf.Bin.PutVarint
import Derived.Shelf.Bin.Uvarint
import Derived.Shelf.Bin.Varint
import Derived.Ground.GgsProg
import Derived.Shelf.GgSortFunc.Insertion
import Derived.Shelf.GgSortFunc.Small
import Derived.Shelf.GgSortFunc.InsertionK
import Derived.Shelf.GgSortFunc.SmallK
import Derived.Shelf.GgSortFunc.Tiny
import Derived.Test.YtchphfdoneckeaaDoorProg
namespace Go.Proofs
open Go.Shelf
def Tryd.lays128_ren : Go.Shelf.Ren := ⟨fun | 128 => 64 | n => n, fun | 51 => 72 | 3 => 3 | 4 => 4 | 46 => 109 | 5 => 5 | 9 => 9 | n => n, fun | n => n⟩
theorem Tryd.lays128 : Go.Proofs.Lays.n128 Tryd.prog Tryd.lays128_ren := {
  mixed := by kernel_rfl
  f128 := Tryd.func64.trans (congrArg some (by kernel_rfl))
  t3 := Tryd.underlying3
  a3 := Tryd.isAgg3
  z3 := Tryd.sizeOf3
  v3 := Tryd.zeroValue3
  t4 := Tryd.underlying4
  a4 := Tryd.isAgg4
  z4 := Tryd.sizeOf4
  v4 := Tryd.zeroValue4
  t5 := Tryd.underlying5
  a5 := Tryd.isAgg5
  z5 := Tryd.sizeOf5
  v5 := Tryd.zeroValue5
  t9 := Tryd.underlying9
  a9 := Tryd.isAgg9
  z9 := Tryd.sizeOf9
  v9 := Tryd.zeroValue9
  t46 := Tryd.underlying109
  a46 := Tryd.isAgg109
  z46 := Tryd.sizeOf109
  v46 := Tryd.zeroValue109
  t51 := Tryd.underlying72
  a51 := Tryd.isAgg72
  z51 := Tryd.sizeOf72
  v51 := Tryd.zeroValue72 }
/-- bits.Len32: "Len32 returns the minimum number of bits required to represent x; the result is 0 for x == 0.": IT RETURNS 'Lib.bitLen x'; the world is as it was. ('h0', 'h1': x is a uint32.) (LAID: no walk: one application.) -/
theorem Tryd.bits_Len32 (x : Int) (w : World) (h0 : 0 ≤ x) (h1 : x ≤ 4294967295) :
    Calls Tryd.prog 64 #[.int .u32 x] w fun e w' => e = .returned (.int .i64 (Lib.bitLen x.toNat)) ∧ w' = w := Any.bits_Len32 Tryd.lays128 x w h0 h1
def Tryd.lays125_ren : Go.Shelf.Ren := ⟨fun | 125 => 44 | 128 => 64 | 129 => 65 | n => n, fun | 46 => 109 | 3 => 3 | 51 => 72 | 53 => 25 | 4 => 4 | 5 => 5 | 9 => 9 | n => n, fun | n => n⟩
theorem Tryd.lays125 : Go.Proofs.Lays.n125 Tryd.prog Tryd.lays125_ren := {
  mixed := by kernel_rfl
  f125 := Tryd.func44.trans (congrArg some (by kernel_rfl))
  f128 := Tryd.func64.trans (congrArg some (by kernel_rfl))
  f129 := Tryd.func65.trans (congrArg some (by kernel_rfl))
  t3 := Tryd.underlying3
  a3 := Tryd.isAgg3
  z3 := Tryd.sizeOf3
  v3 := Tryd.zeroValue3
  t4 := Tryd.underlying4
  a4 := Tryd.isAgg4
  z4 := Tryd.sizeOf4
  v4 := Tryd.zeroValue4
  t5 := Tryd.underlying5
  a5 := Tryd.isAgg5
  z5 := Tryd.sizeOf5
  v5 := Tryd.zeroValue5
  t9 := Tryd.underlying9
  a9 := Tryd.isAgg9
  z9 := Tryd.sizeOf9
  v9 := Tryd.zeroValue9
  t46 := Tryd.underlying109
  a46 := Tryd.isAgg109
  z46 := Tryd.sizeOf109
  v46 := Tryd.zeroValue109
  t51 := Tryd.underlying72
  a51 := Tryd.isAgg72
  z51 := Tryd.sizeOf72
  v51 := Tryd.zeroValue72
  t53 := Tryd.underlying25
  a53 := Tryd.isAgg25
  z53 := Tryd.sizeOf25
  v53 := Tryd.zeroValue25 }
/-- bits.Len: "Len returns the minimum number of bits required to represent x; the result is 0 for x == 0.": IT RETURNS 'Lib.bitLen x'; the world is as it was. (A uint has 64 bits in the model.) ITS CALLEE bits.Len64 IS MET BY ITS OWN CONTRACT OFF THE SHELF (lay that first). (LAID: no walk: one application.) -/
theorem Tryd.bits_Len (x : Int) (w : World) (h0 : 0 ≤ x) (h1 : x ≤ 18446744073709551615) :
    Calls Tryd.prog 44 #[.int .u64 x] w fun e w' => e = .returned (.int .i64 (Lib.bitLen x.toNat)) ∧ w' = w := Any.bits_Len Tryd.lays125 x w h0 h1
def Tryd.lays129_ren : Go.Shelf.Ren := ⟨fun | 129 => 65 | n => n, fun | 53 => 25 | 3 => 3 | 4 => 4 | 46 => 109 | 5 => 5 | 9 => 9 | n => n, fun | n => n⟩
theorem Tryd.lays129 : Go.Proofs.Lays.n129 Tryd.prog Tryd.lays129_ren := {
  mixed := by kernel_rfl
  f129 := Tryd.func65.trans (congrArg some (by kernel_rfl))
  t3 := Tryd.underlying3
  a3 := Tryd.isAgg3
  z3 := Tryd.sizeOf3
  v3 := Tryd.zeroValue3
  t4 := Tryd.underlying4
  a4 := Tryd.isAgg4
  z4 := Tryd.sizeOf4
  v4 := Tryd.zeroValue4
  t5 := Tryd.underlying5
  a5 := Tryd.isAgg5
  z5 := Tryd.sizeOf5
  v5 := Tryd.zeroValue5
  t9 := Tryd.underlying9
  a9 := Tryd.isAgg9
  z9 := Tryd.sizeOf9
  v9 := Tryd.zeroValue9
  t46 := Tryd.underlying109
  a46 := Tryd.isAgg109
  z46 := Tryd.sizeOf109
  v46 := Tryd.zeroValue109
  t53 := Tryd.underlying25
  a53 := Tryd.isAgg25
  z53 := Tryd.sizeOf25
  v53 := Tryd.zeroValue25 }
/-- bits.Len64: "Len64 returns the minimum number of bits required to represent x; the result is 0 for x == 0.": IT RETURNS 'Lib.bitLen x'; the world is as it was. ('h0', 'h1': x is a uint64.) (LAID: no walk: one application.) -/
theorem Tryd.bits_Len64 (x : Int) (w : World) (h0 : 0 ≤ x) (h1 : x ≤ 18446744073709551615) :
    Calls Tryd.prog 65 #[.int .u64 x] w fun e w' => e = .returned (.int .i64 (Lib.bitLen x.toNat)) ∧ w' = w := Any.bits_Len64 Tryd.lays129 x w h0 h1
def Tryd.laysBin46_ren : Go.Shelf.Ren := ⟨fun | 46 => 51 | n => n, fun | 22 => 67 | 33 => 25 | 3 => 3 | 4 => 4 | 5 => 5 | 0 => 0 | 45 => 109 | n => n, fun | n => n⟩
theorem Tryd.laysBin46 : Go.Proofs.LaysBin.n46 Tryd.prog Tryd.laysBin46_ren := {
  mixed := by kernel_rfl
  f46 := Tryd.func51.trans (congrArg some (by kernel_rfl))
  t0 := Tryd.underlying0
  a0 := Tryd.isAgg0
  z0 := Tryd.sizeOf0
  v0 := Tryd.zeroValue0
  i0 := by kernel_rfl
  t3 := Tryd.underlying3
  a3 := Tryd.isAgg3
  z3 := Tryd.sizeOf3
  v3 := Tryd.zeroValue3
  i3 := by kernel_rfl
  t4 := Tryd.underlying4
  a4 := Tryd.isAgg4
  z4 := Tryd.sizeOf4
  v4 := Tryd.zeroValue4
  i4 := by kernel_rfl
  t5 := Tryd.underlying5
  a5 := Tryd.isAgg5
  z5 := Tryd.sizeOf5
  v5 := Tryd.zeroValue5
  i5 := by kernel_rfl
  t22 := Tryd.underlying67
  a22 := Tryd.isAgg67
  z22 := Tryd.sizeOf67
  v22 := Tryd.zeroValue67
  i22 := by kernel_rfl
  t33 := Tryd.underlying25
  a33 := Tryd.isAgg25
  z33 := Tryd.sizeOf25
  v33 := Tryd.zeroValue25
  i33 := by kernel_rfl
  t45 := Tryd.underlying109
  a45 := Tryd.isAgg109
  z45 := Tryd.sizeOf109
  v45 := Tryd.zeroValue109
  i45 := by kernel_rfl }
open Go.RowKit in
/-- binary.PutUvarint: "PutUvarint encodes a uint64 into buf and returns the number of bytes written. If the buffer is too small, PutUvarint will panic.": WHERE buf HAS ROOM: x's VARINT ('Lib.uvarint x') IS LAID IN buf's FIRST CELLS ('World.setCells'); its length comes back; nothing else turns. (LAID: no walk: one application.) -/
theorem Tryd.binary_PutUvarint (g o n c x : Nat) (hx : x < 18446744073709551616) (w : World) (hn : (Lib.uvarint x).length ≤ n) (hcell : ∀ j, j < (Lib.uvarint x).length → (w.cell? ⟨g, o + j, none⟩).isSome = true ∧ w.frozen? ⟨g, o + j, none⟩ = false) :
    Calls Tryd.prog 51 #[.slice (some ⟨g, o, none⟩) n c, .int .u64 x] w fun e w' => e = .returned (.int .i64 (Lib.uvarint x).length) ∧ w' = w.setCells g o (Lib.byteCells (Lib.uvarint x)) := Any.binary_PutUvarint Tryd.laysBin46 g o n c x hx w hn hcell
def Tryd.laysBin49_ren : Go.Shelf.Ren := ⟨fun | 49 => 52 | 46 => 51 | n => n, fun | 22 => 67 | 2 => 2 | 3 => 3 | 33 => 25 | 45 => 109 | 4 => 4 | 5 => 5 | 0 => 0 | n => n, fun | n => n⟩
theorem Tryd.laysBin49 : Go.Proofs.LaysBin.n49 Tryd.prog Tryd.laysBin49_ren := {
  mixed := by kernel_rfl
  f46 := Tryd.func51.trans (congrArg some (by kernel_rfl))
  f49 := Tryd.func52.trans (congrArg some (by kernel_rfl))
  t0 := Tryd.underlying0
  a0 := Tryd.isAgg0
  z0 := Tryd.sizeOf0
  v0 := Tryd.zeroValue0
  i0 := by kernel_rfl
  t2 := Tryd.underlying2
  a2 := Tryd.isAgg2
  z2 := Tryd.sizeOf2
  v2 := Tryd.zeroValue2
  i2 := by kernel_rfl
  t3 := Tryd.underlying3
  a3 := Tryd.isAgg3
  z3 := Tryd.sizeOf3
  v3 := Tryd.zeroValue3
  i3 := by kernel_rfl
  t4 := Tryd.underlying4
  a4 := Tryd.isAgg4
  z4 := Tryd.sizeOf4
  v4 := Tryd.zeroValue4
  i4 := by kernel_rfl
  t5 := Tryd.underlying5
  a5 := Tryd.isAgg5
  z5 := Tryd.sizeOf5
  v5 := Tryd.zeroValue5
  i5 := by kernel_rfl
  t22 := Tryd.underlying67
  a22 := Tryd.isAgg67
  z22 := Tryd.sizeOf67
  v22 := Tryd.zeroValue67
  i22 := by kernel_rfl
  t33 := Tryd.underlying25
  a33 := Tryd.isAgg25
  z33 := Tryd.sizeOf25
  v33 := Tryd.zeroValue25
  i33 := by kernel_rfl
  t45 := Tryd.underlying109
  a45 := Tryd.isAgg109
  z45 := Tryd.sizeOf109
  v45 := Tryd.zeroValue109
  i45 := by kernel_rfl }
open Go.RowKit in
/-- binary.PutVarint: "PutVarint encodes an int64 into buf and returns the number of bytes written. If the buffer is too small, PutVarint will panic.": WHERE buf HAS ROOM: THE VARINT OF x's ZIG-ZAG ('Lib.uvarint (Lib.zigzag x)') IS LAID IN buf's FIRST CELLS; its length comes back; nothing else turns. (LAID: no walk: one application.) -/
theorem Tryd.binary_PutVarint (g o n c : Nat) (x : Int) (h0 : -9223372036854775808 ≤ x) (h1 : x ≤ 9223372036854775807) (w : World) (hn : (Lib.uvarint (Lib.zigzag x)).length ≤ n) (hcell : ∀ j, j < (Lib.uvarint (Lib.zigzag x)).length → (w.cell? ⟨g, o + j, none⟩).isSome = true ∧ w.frozen? ⟨g, o + j, none⟩ = false) :
    Calls Tryd.prog 52 #[.slice (some ⟨g, o, none⟩) n c, .int .i64 x] w fun e w' => e = .returned (.int .i64 (Lib.uvarint (Lib.zigzag x)).length) ∧ w' = w.setCells g o (Lib.byteCells (Lib.uvarint (Lib.zigzag x))) := Any.binary_PutVarint Tryd.laysBin49 g o n c x h0 h1 w hn hcell
def Tryd.laysBin45_ren : Go.Shelf.Ren := ⟨fun | 45 => 48 | n => n, fun | 22 => 67 | 33 => 25 | 3 => 3 | 45 => 109 | 0 => 0 | 5 => 5 | 4 => 4 | n => n, fun | n => n⟩
theorem Tryd.laysBin45 : Go.Proofs.LaysBin.n45 Tryd.prog Tryd.laysBin45_ren := {
  mixed := by kernel_rfl
  f45 := Tryd.func48.trans (congrArg some (by kernel_rfl))
  t0 := Tryd.underlying0
  a0 := Tryd.isAgg0
  z0 := Tryd.sizeOf0
  v0 := Tryd.zeroValue0
  i0 := by kernel_rfl
  t3 := Tryd.underlying3
  a3 := Tryd.isAgg3
  z3 := Tryd.sizeOf3
  v3 := Tryd.zeroValue3
  i3 := by kernel_rfl
  t4 := Tryd.underlying4
  a4 := Tryd.isAgg4
  z4 := Tryd.sizeOf4
  v4 := Tryd.zeroValue4
  i4 := by kernel_rfl
  t5 := Tryd.underlying5
  a5 := Tryd.isAgg5
  z5 := Tryd.sizeOf5
  v5 := Tryd.zeroValue5
  i5 := by kernel_rfl
  t22 := Tryd.underlying67
  a22 := Tryd.isAgg67
  z22 := Tryd.sizeOf67
  v22 := Tryd.zeroValue67
  i22 := by kernel_rfl
  t33 := Tryd.underlying25
  a33 := Tryd.isAgg25
  z33 := Tryd.sizeOf25
  v33 := Tryd.zeroValue25
  i33 := by kernel_rfl
  t45 := Tryd.underlying109
  a45 := Tryd.isAgg109
  z45 := Tryd.sizeOf109
  v45 := Tryd.zeroValue109
  i45 := by kernel_rfl }
open Go.RowKit in
/-- binary.Uvarint: "Uvarint decodes a uint64 from buf and returns that value and the number of bytes read (> 0). If an error occurred, the value is 0 and the number of bytes n is <= 0 meaning: n == 0: buf too small; n < 0: value larger than 64 bits (overflow) and -n is the number of bytes read.": 'Lib.uvarintDec' OF buf's BYTES, both results. The world is as it was. (LAID: no walk: one application.) -/
theorem Tryd.binary_Uvarint (g o n c : Nat) (l : List UInt8) (w : World) (hl : l.length = n) (hcell : ∀ j (hj : j < l.length), w.cell? ⟨g, o + j, none⟩ = some (.int .u8 (l[j]).toNat)) :
    Calls Tryd.prog 48 #[.slice (some ⟨g, o, none⟩) n c] w fun e w' => e = .returned (.tuple #[.int .u64 (Lib.uvarintDec l).1, .int .i64 (Lib.uvarintDec l).2]) ∧ w' = w := Any.binary_Uvarint Tryd.laysBin45 g o n c l w hl hcell
def Tryd.laysBin48_ren : Go.Shelf.Ren := ⟨fun | 48 => 50 | 45 => 48 | n => n, fun | 22 => 67 | 2 => 2 | 3 => 3 | 38 => 115 | 33 => 25 | 45 => 109 | 4 => 4 | 0 => 0 | 5 => 5 | n => n, fun | n => n⟩
theorem Tryd.laysBin48 : Go.Proofs.LaysBin.n48 Tryd.prog Tryd.laysBin48_ren := {
  mixed := by kernel_rfl
  f45 := Tryd.func48.trans (congrArg some (by kernel_rfl))
  f48 := Tryd.func50.trans (congrArg some (by kernel_rfl))
  t0 := Tryd.underlying0
  a0 := Tryd.isAgg0
  z0 := Tryd.sizeOf0
  v0 := Tryd.zeroValue0
  i0 := by kernel_rfl
  t2 := Tryd.underlying2
  a2 := Tryd.isAgg2
  z2 := Tryd.sizeOf2
  v2 := Tryd.zeroValue2
  i2 := by kernel_rfl
  t3 := Tryd.underlying3
  a3 := Tryd.isAgg3
  z3 := Tryd.sizeOf3
  v3 := Tryd.zeroValue3
  i3 := by kernel_rfl
  t4 := Tryd.underlying4
  a4 := Tryd.isAgg4
  z4 := Tryd.sizeOf4
  v4 := Tryd.zeroValue4
  i4 := by kernel_rfl
  t5 := Tryd.underlying5
  a5 := Tryd.isAgg5
  z5 := Tryd.sizeOf5
  v5 := Tryd.zeroValue5
  i5 := by kernel_rfl
  t22 := Tryd.underlying67
  a22 := Tryd.isAgg67
  z22 := Tryd.sizeOf67
  v22 := Tryd.zeroValue67
  i22 := by kernel_rfl
  t33 := Tryd.underlying25
  a33 := Tryd.isAgg25
  z33 := Tryd.sizeOf25
  v33 := Tryd.zeroValue25
  i33 := by kernel_rfl
  t38 := Tryd.underlying115
  a38 := Tryd.isAgg115
  z38 := Tryd.sizeOf115
  v38 := Tryd.zeroValue115
  i38 := by kernel_rfl
  t45 := Tryd.underlying109
  a45 := Tryd.isAgg109
  z45 := Tryd.sizeOf109
  v45 := Tryd.zeroValue109
  i45 := by kernel_rfl }
open Go.RowKit in
/-- binary.Varint: "Varint decodes an int64 from buf and returns that value and the number of bytes read (> 0). If an error occurred, the value is 0 and the number of bytes n is <= 0 ..": 'Lib.varintDec' OF buf's BYTES: what Uvarint decodes, out of the zig-zag ('Lib.unzigzag'); the count as Uvarint's. The world is as it was. (LAID: no walk: one application.) -/
theorem Tryd.binary_Varint (g o n c : Nat) (l : List UInt8) (w : World) (hl : l.length = n) (hcell : ∀ j (hj : j < l.length), w.cell? ⟨g, o + j, none⟩ = some (.int .u8 (l[j]).toNat)) :
    Calls Tryd.prog 50 #[.slice (some ⟨g, o, none⟩) n c] w fun e w' => e = .returned (.tuple #[.int .i64 (Lib.varintDec l).1, .int .i64 (Lib.varintDec l).2]) ∧ w' = w := Any.binary_Varint Tryd.laysBin48 g o n c l w hl hcell
def Tryd.laysGg26_ren : Go.Shelf.Ren := ⟨fun | 26 => 66 | n => n, fun | 44 => 112 | 3 => 3 | 0 => 0 | 4 => 4 | 26 => 95 | 37 => 105 | n => n, fun | n => n⟩
theorem Tryd.laysGg26 : Go.Proofs.LaysGg.n26 Tryd.prog Tryd.laysGg26_ren := {
  mixed := by kernel_rfl
  f26 := Tryd.func66.trans (congrArg some (by kernel_rfl))
  t0 := Tryd.underlying0
  a0 := Tryd.isAgg0
  z0 := Tryd.sizeOf0
  v0 := Tryd.zeroValue0
  i0 := by kernel_rfl
  t3 := Tryd.underlying3
  a3 := Tryd.isAgg3
  z3 := Tryd.sizeOf3
  v3 := Tryd.zeroValue3
  i3 := by kernel_rfl
  t4 := Tryd.underlying4
  a4 := Tryd.isAgg4
  z4 := Tryd.sizeOf4
  v4 := Tryd.zeroValue4
  i4 := by kernel_rfl
  t26 := Tryd.underlying95
  a26 := Tryd.isAgg95
  z26 := Tryd.sizeOf95
  v26 := Tryd.zeroValue95
  i26 := by kernel_rfl
  t37 := Tryd.underlying105
  a37 := Tryd.isAgg105
  z37 := Tryd.sizeOf105
  v37 := Tryd.zeroValue105
  i37 := by kernel_rfl
  t44 := Tryd.underlying112
  a44 := Tryd.isAgg112
  z44 := Tryd.sizeOf112
  v44 := Tryd.zeroValue112
  i44 := by kernel_rfl }
open Go.RowKit Go.Lib Go.Sort in
theorem Tryd.insertionSort_func_one {α : Type} [Inhabited α] (enc : α → Value) (lt : α → α → Bool) (g : Nat) (lb : Array Value) (sf : Nat) (sb : Array Value) (blk off a b : Nat) (d : Array α) (w : World) (eg : ∀ args w, (callFunc g args).run Tryd.prog w = .ok (.enter g args) w) (hless : LessReads Tryd.prog g lb enc lt blk off d.size w) (hswap : SwapSwaps Tryd.prog sf sb enc blk off d.size) (hH : Holds enc w blk off d) (hblk : blk < w.heap.size) (hab : a ≤ b) (hb : b ≤ d.size) (hsz : d.size < 4611686018427387904) :
    Calls Tryd.prog 66 #[.agg #[.func (.func g) #[] lb, .func (.func sf) #[] sb], .int .i64 a, .int .i64 b] w fun e w' =>
      e = .returned (.tuple #[]) ∧ ∃ n, w' = putRow enc (Sort.ahead (w.alloc (.cells #[.func (.func g) #[] lb, .func (.func sf) #[] sb] 112)) n) blk off (Sort.insertionSort lt d a b) := Any.insertionSort_func_one Tryd.laysGg26 enc lt g lb sf sb blk off a b d w eg hless hswap hH hblk hab hb hsz
def Tryd.laysGg14_ren : Go.Shelf.Ren := ⟨fun | 14 => 45 | 26 => 66 | 27 => 67 | 28 => 68 | 29 => 69 | 30 => 70 | 31 => 71 | 32 => 72 | 33 => 73 | 34 => 82 | 35 => 83 | 36 => 84 | 37 => 85 | 38 => 86 | 13 => 44 | 39 => 94 | 24 => 64 | 25 => 65 | n => n, fun | 44 => 112 | 3 => 3 | 0 => 0 | 4 => 4 | 54 => 135 | 53 => 134 | 26 => 95 | 58 => 139 | 37 => 105 | 60 => 147 | 41 => 109 | 51 => 25 | 64 => 150 | 66 => 156 | 67 => 157 | 49 => 72 | 5 => 5 | 9 => 9 | n => n, fun | n => n⟩
theorem Tryd.laysGg14 : Go.Proofs.LaysGg.n14 Tryd.prog Tryd.laysGg14_ren := {
  mixed := by kernel_rfl
  f13 := Tryd.func44.trans (congrArg some (by kernel_rfl))
  f14 := Tryd.func45.trans (congrArg some (by kernel_rfl))
  f24 := Tryd.func64.trans (congrArg some (by kernel_rfl))
  f25 := Tryd.func65.trans (congrArg some (by kernel_rfl))
  f26 := Tryd.func66.trans (congrArg some (by kernel_rfl))
  f27 := Tryd.func67.trans (congrArg some (by kernel_rfl))
  f28 := Tryd.func68.trans (congrArg some (by kernel_rfl))
  f29 := Tryd.func69.trans (congrArg some (by kernel_rfl))
  f30 := Tryd.func70.trans (congrArg some (by kernel_rfl))
  f31 := Tryd.func71.trans (congrArg some (by kernel_rfl))
  f32 := Tryd.func72.trans (congrArg some (by kernel_rfl))
  f33 := Tryd.func73.trans (congrArg some (by kernel_rfl))
  f34 := Tryd.func82.trans (congrArg some (by kernel_rfl))
  f35 := Tryd.func83.trans (congrArg some (by kernel_rfl))
  f36 := Tryd.func84.trans (congrArg some (by kernel_rfl))
  f37 := Tryd.func85.trans (congrArg some (by kernel_rfl))
  f38 := Tryd.func86.trans (congrArg some (by kernel_rfl))
  f39 := Tryd.func94.trans (congrArg some (by kernel_rfl))
  t0 := Tryd.underlying0
  a0 := Tryd.isAgg0
  z0 := Tryd.sizeOf0
  v0 := Tryd.zeroValue0
  i0 := by kernel_rfl
  t3 := Tryd.underlying3
  a3 := Tryd.isAgg3
  z3 := Tryd.sizeOf3
  v3 := Tryd.zeroValue3
  i3 := by kernel_rfl
  t4 := Tryd.underlying4
  a4 := Tryd.isAgg4
  z4 := Tryd.sizeOf4
  v4 := Tryd.zeroValue4
  i4 := by kernel_rfl
  t5 := Tryd.underlying5
  a5 := Tryd.isAgg5
  z5 := Tryd.sizeOf5
  v5 := Tryd.zeroValue5
  i5 := by kernel_rfl
  t9 := Tryd.underlying9
  a9 := Tryd.isAgg9
  z9 := Tryd.sizeOf9
  v9 := Tryd.zeroValue9
  i9 := by kernel_rfl
  t26 := Tryd.underlying95
  a26 := Tryd.isAgg95
  z26 := Tryd.sizeOf95
  v26 := Tryd.zeroValue95
  i26 := by kernel_rfl
  t37 := Tryd.underlying105
  a37 := Tryd.isAgg105
  z37 := Tryd.sizeOf105
  v37 := Tryd.zeroValue105
  i37 := by kernel_rfl
  t41 := Tryd.underlying109
  a41 := Tryd.isAgg109
  z41 := Tryd.sizeOf109
  v41 := Tryd.zeroValue109
  i41 := by kernel_rfl
  t44 := Tryd.underlying112
  a44 := Tryd.isAgg112
  z44 := Tryd.sizeOf112
  v44 := Tryd.zeroValue112
  i44 := by kernel_rfl
  t49 := Tryd.underlying72
  a49 := Tryd.isAgg72
  z49 := Tryd.sizeOf72
  v49 := Tryd.zeroValue72
  i49 := by kernel_rfl
  t51 := Tryd.underlying25
  a51 := Tryd.isAgg25
  z51 := Tryd.sizeOf25
  v51 := Tryd.zeroValue25
  i51 := by kernel_rfl
  t53 := Tryd.underlying134
  a53 := Tryd.isAgg134
  z53 := Tryd.sizeOf134
  v53 := Tryd.zeroValue134
  i53 := by kernel_rfl
  t54 := Tryd.underlying135
  a54 := Tryd.isAgg135
  z54 := Tryd.sizeOf135
  v54 := Tryd.zeroValue135
  i54 := by kernel_rfl
  t58 := Tryd.underlying139
  a58 := Tryd.isAgg139
  z58 := Tryd.sizeOf139
  v58 := Tryd.zeroValue139
  i58 := by kernel_rfl
  t60 := Tryd.underlying147
  a60 := Tryd.isAgg147
  z60 := Tryd.sizeOf147
  v60 := Tryd.zeroValue147
  i60 := by kernel_rfl
  t64 := Tryd.underlying150
  a64 := Tryd.isAgg150
  z64 := Tryd.sizeOf150
  v64 := Tryd.zeroValue150
  i64 := by kernel_rfl
  t66 := Tryd.underlying156
  a66 := Tryd.isAgg156
  z66 := Tryd.sizeOf156
  v66 := Tryd.zeroValue156
  i66 := by kernel_rfl
  t67 := Tryd.underlying157
  a67 := Tryd.isAgg157
  z67 := Tryd.sizeOf157
  v67 := Tryd.zeroValue157
  i67 := by kernel_rfl }
open Go.RowKit Go.Lib Go.Sort in
/-- sort.pdqsort_func AT A RANGE OF AT MOST 12. (LAID: no walk: one application.) -/
theorem Tryd.pdqsort_func_small {α : Type} [Inhabited α] (enc : α → Value) (lt : α → α → Bool) (g : Nat) (lb : Array Value) (sf : Nat) (sb : Array Value) (blk off a b : Nat) (lim : Int) (d : Array α) (w : World) (eg : ∀ args w, (callFunc g args).run Tryd.prog w = .ok (.enter g args) w) (hless : LessReads Tryd.prog g lb enc lt blk off d.size w) (hswap : SwapSwaps Tryd.prog sf sb enc blk off d.size) (hH : Holds enc w blk off d) (hblk : blk < w.heap.size) (hab : a ≤ b) (hb : b ≤ d.size) (hsz : d.size < 4611686018427387904) (h12 : b - a ≤ 12) :
    Calls Tryd.prog 45 #[.agg #[.func (.func g) #[] lb, .func (.func sf) #[] sb], .int .i64 a, .int .i64 b, .int .i64 lim] w fun e w' =>
      e = .returned (.tuple #[]) ∧ ∃ n, w' = putRow enc (Sort.ahead ((w.alloc (.cells #[.func (.func g) #[] lb, .func (.func sf) #[] sb] 112)).alloc (.cells #[.func (.func g) #[] lb, .func (.func sf) #[] sb] 112)) n) blk off (Sort.insertionSort lt d a b) := Any.pdqsort_func_small Tryd.laysGg14 enc lt g lb sf sb blk off a b lim d w eg hless hswap hH hblk hab hb hsz h12
def Tryd.laysGg6_ren : Go.Shelf.Ren := ⟨fun | 6 => 31 | 10 => 41 | 11 => 42 | 12 => 43 | 13 => 44 | 14 => 45 | 24 => 64 | 25 => 65 | 26 => 66 | 27 => 67 | 28 => 68 | 29 => 69 | 30 => 70 | 31 => 71 | 32 => 72 | 33 => 73 | 34 => 82 | 35 => 83 | 36 => 84 | 37 => 85 | 38 => 86 | 39 => 94 | n => n, fun | 20 => 20 | 26 => 95 | 35 => 103 | 0 => 0 | 37 => 105 | 3 => 3 | 41 => 109 | 44 => 112 | 49 => 72 | 51 => 25 | 4 => 4 | 54 => 135 | 53 => 134 | 58 => 139 | 5 => 5 | 9 => 9 | 60 => 147 | 64 => 150 | 66 => 156 | 67 => 157 | 17 => 17 | 32 => 100 | 33 => 101 | 82 => 172 | 12 => 12 | 75 => 165 | 76 => 166 | 77 => 167 | 78 => 168 | 79 => 169 | 80 => 170 | n => n, fun | n => n⟩
theorem Tryd.laysGg6 : Go.Proofs.LaysGg.n6 Tryd.prog Tryd.laysGg6_ren := {
  mixed := by kernel_rfl
  f6 := Tryd.func31.trans (congrArg some (by kernel_rfl))
  f10 := Tryd.func41.trans (congrArg some (by kernel_rfl))
  f11 := Tryd.func42.trans (congrArg some (by kernel_rfl))
  f12 := Tryd.func43.trans (congrArg some (by kernel_rfl))
  f13 := Tryd.func44.trans (congrArg some (by kernel_rfl))
  f14 := Tryd.func45.trans (congrArg some (by kernel_rfl))
  f24 := Tryd.func64.trans (congrArg some (by kernel_rfl))
  f25 := Tryd.func65.trans (congrArg some (by kernel_rfl))
  f26 := Tryd.func66.trans (congrArg some (by kernel_rfl))
  f27 := Tryd.func67.trans (congrArg some (by kernel_rfl))
  f28 := Tryd.func68.trans (congrArg some (by kernel_rfl))
  f29 := Tryd.func69.trans (congrArg some (by kernel_rfl))
  f30 := Tryd.func70.trans (congrArg some (by kernel_rfl))
  f31 := Tryd.func71.trans (congrArg some (by kernel_rfl))
  f32 := Tryd.func72.trans (congrArg some (by kernel_rfl))
  f33 := Tryd.func73.trans (congrArg some (by kernel_rfl))
  f34 := Tryd.func82.trans (congrArg some (by kernel_rfl))
  f35 := Tryd.func83.trans (congrArg some (by kernel_rfl))
  f36 := Tryd.func84.trans (congrArg some (by kernel_rfl))
  f37 := Tryd.func85.trans (congrArg some (by kernel_rfl))
  f38 := Tryd.func86.trans (congrArg some (by kernel_rfl))
  f39 := Tryd.func94.trans (congrArg some (by kernel_rfl))
  t0 := Tryd.underlying0
  a0 := Tryd.isAgg0
  z0 := Tryd.sizeOf0
  v0 := Tryd.zeroValue0
  i0 := by kernel_rfl
  t3 := Tryd.underlying3
  a3 := Tryd.isAgg3
  z3 := Tryd.sizeOf3
  v3 := Tryd.zeroValue3
  i3 := by kernel_rfl
  t4 := Tryd.underlying4
  a4 := Tryd.isAgg4
  z4 := Tryd.sizeOf4
  v4 := Tryd.zeroValue4
  i4 := by kernel_rfl
  t5 := Tryd.underlying5
  a5 := Tryd.isAgg5
  z5 := Tryd.sizeOf5
  v5 := Tryd.zeroValue5
  i5 := by kernel_rfl
  t9 := Tryd.underlying9
  a9 := Tryd.isAgg9
  z9 := Tryd.sizeOf9
  v9 := Tryd.zeroValue9
  i9 := by kernel_rfl
  t12 := Tryd.underlying12
  a12 := Tryd.isAgg12
  z12 := Tryd.sizeOf12
  v12 := Tryd.zeroValue12
  i12 := by kernel_rfl
  t17 := Tryd.underlying17
  a17 := Tryd.isAgg17
  z17 := Tryd.sizeOf17
  v17 := Tryd.zeroValue17
  i17 := by kernel_rfl
  t20 := Tryd.underlying20
  a20 := Tryd.isAgg20
  z20 := Tryd.sizeOf20
  v20 := Tryd.zeroValue20
  i20 := by kernel_rfl
  t26 := Tryd.underlying95
  a26 := Tryd.isAgg95
  z26 := Tryd.sizeOf95
  v26 := Tryd.zeroValue95
  i26 := by kernel_rfl
  t32 := Tryd.underlying100
  a32 := Tryd.isAgg100
  z32 := Tryd.sizeOf100
  v32 := Tryd.zeroValue100
  i32 := by kernel_rfl
  t33 := Tryd.underlying101
  a33 := Tryd.isAgg101
  z33 := Tryd.sizeOf101
  v33 := Tryd.zeroValue101
  i33 := by kernel_rfl
  t35 := Tryd.underlying103
  a35 := Tryd.isAgg103
  z35 := Tryd.sizeOf103
  v35 := Tryd.zeroValue103
  i35 := by kernel_rfl
  t37 := Tryd.underlying105
  a37 := Tryd.isAgg105
  z37 := Tryd.sizeOf105
  v37 := Tryd.zeroValue105
  i37 := by kernel_rfl
  t41 := Tryd.underlying109
  a41 := Tryd.isAgg109
  z41 := Tryd.sizeOf109
  v41 := Tryd.zeroValue109
  i41 := by kernel_rfl
  t44 := Tryd.underlying112
  a44 := Tryd.isAgg112
  z44 := Tryd.sizeOf112
  v44 := Tryd.zeroValue112
  i44 := by kernel_rfl
  t49 := Tryd.underlying72
  a49 := Tryd.isAgg72
  z49 := Tryd.sizeOf72
  v49 := Tryd.zeroValue72
  i49 := by kernel_rfl
  t51 := Tryd.underlying25
  a51 := Tryd.isAgg25
  z51 := Tryd.sizeOf25
  v51 := Tryd.zeroValue25
  i51 := by kernel_rfl
  t53 := Tryd.underlying134
  a53 := Tryd.isAgg134
  z53 := Tryd.sizeOf134
  v53 := Tryd.zeroValue134
  i53 := by kernel_rfl
  t54 := Tryd.underlying135
  a54 := Tryd.isAgg135
  z54 := Tryd.sizeOf135
  v54 := Tryd.zeroValue135
  i54 := by kernel_rfl
  t58 := Tryd.underlying139
  a58 := Tryd.isAgg139
  z58 := Tryd.sizeOf139
  v58 := Tryd.zeroValue139
  i58 := by kernel_rfl
  t60 := Tryd.underlying147
  a60 := Tryd.isAgg147
  z60 := Tryd.sizeOf147
  v60 := Tryd.zeroValue147
  i60 := by kernel_rfl
  t64 := Tryd.underlying150
  a64 := Tryd.isAgg150
  z64 := Tryd.sizeOf150
  v64 := Tryd.zeroValue150
  i64 := by kernel_rfl
  t66 := Tryd.underlying156
  a66 := Tryd.isAgg156
  z66 := Tryd.sizeOf156
  v66 := Tryd.zeroValue156
  i66 := by kernel_rfl
  t67 := Tryd.underlying157
  a67 := Tryd.isAgg157
  z67 := Tryd.sizeOf157
  v67 := Tryd.zeroValue157
  i67 := by kernel_rfl
  t75 := Tryd.underlying165
  a75 := Tryd.isAgg165
  z75 := Tryd.sizeOf165
  v75 := Tryd.zeroValue165
  i75 := by kernel_rfl
  t76 := Tryd.underlying166
  a76 := Tryd.isAgg166
  z76 := Tryd.sizeOf166
  v76 := Tryd.zeroValue166
  i76 := by kernel_rfl
  t77 := Tryd.underlying167
  a77 := Tryd.isAgg167
  z77 := Tryd.sizeOf167
  v77 := Tryd.zeroValue167
  i77 := by kernel_rfl
  t78 := Tryd.underlying168
  a78 := Tryd.isAgg168
  z78 := Tryd.sizeOf168
  v78 := Tryd.zeroValue168
  i78 := by kernel_rfl
  t79 := Tryd.underlying169
  a79 := Tryd.isAgg169
  z79 := Tryd.sizeOf169
  v79 := Tryd.zeroValue169
  i79 := by kernel_rfl
  t80 := Tryd.underlying170
  a80 := Tryd.isAgg170
  z80 := Tryd.sizeOf170
  v80 := Tryd.zeroValue170
  i80 := by kernel_rfl
  t82 := Tryd.underlying172
  a82 := Tryd.isAgg172
  z82 := Tryd.sizeOf172
  v82 := Tryd.zeroValue172
  i82 := by kernel_rfl }
open Go.RowKit Go.Lib Go.Sort in
theorem Tryd.insertionSort_func_cells {α : Type} [Inhabited α] (enc : α → List Value) (k : Nat) (hk : ∀ x, (enc x).length = k) (lt : α → α → Bool) (g : Nat) (lb : Array Value) (sf : Nat) (sb : Array Value) (blk off a b : Nat) (d : Array α) (w : World) (eg : ∀ args w, (callFunc g args).run Tryd.prog w = .ok (.enter g args) w) (hless : LessReadsK Tryd.prog g lb enc k lt blk off d.size w) (hswap : SwapSwapsK Tryd.prog sf sb enc k blk off d.size) (hH : HoldsK enc k w blk off d) (hblk : blk < w.heap.size) (hab : a ≤ b) (hb : b ≤ d.size) (hsz : d.size < 4611686018427387904) :
    Calls Tryd.prog 66 #[.agg #[.func (.func g) #[] lb, .func (.func sf) #[] sb], .int .i64 a, .int .i64 b] w fun e w' =>
      e = .returned (.tuple #[]) ∧ ∃ n, w' = putRowK enc k (Sort.ahead (w.alloc (.cells #[.func (.func g) #[] lb, .func (.func sf) #[] sb] 112)) n) blk off (Sort.insertionSort lt d a b) := Any.insertionSort_func_cells Tryd.laysGg26 enc k hk lt g lb sf sb blk off a b d w eg hless hswap hH hblk hab hb hsz
open Go.RowKit Go.Lib Go.Sort in
/-- sort.pdqsort_func AT A RANGE OF AT MOST 12. (LAID: no walk: one application.) -/
theorem Tryd.pdqsort_func_small_cells {α : Type} [Inhabited α] (enc : α → List Value) (k : Nat) (hk : ∀ x, (enc x).length = k) (lt : α → α → Bool) (g : Nat) (lb : Array Value) (sf : Nat) (sb : Array Value) (blk off a b : Nat) (lim : Int) (d : Array α) (w : World) (eg : ∀ args w, (callFunc g args).run Tryd.prog w = .ok (.enter g args) w) (hless : LessReadsK Tryd.prog g lb enc k lt blk off d.size w) (hswap : SwapSwapsK Tryd.prog sf sb enc k blk off d.size) (hH : HoldsK enc k w blk off d) (hblk : blk < w.heap.size) (hab : a ≤ b) (hb : b ≤ d.size) (hsz : d.size < 4611686018427387904) (h12 : b - a ≤ 12) :
    Calls Tryd.prog 45 #[.agg #[.func (.func g) #[] lb, .func (.func sf) #[] sb], .int .i64 a, .int .i64 b, .int .i64 lim] w fun e w' =>
      e = .returned (.tuple #[]) ∧ ∃ n, w' = putRowK enc k (Sort.ahead ((w.alloc (.cells #[.func (.func g) #[] lb, .func (.func sf) #[] sb] 112)).alloc (.cells #[.func (.func g) #[] lb, .func (.func sf) #[] sb] 112)) n) blk off (Sort.insertionSort lt d a b) := Any.pdqsort_func_small_cells Tryd.laysGg14 enc k hk lt g lb sf sb blk off a b lim d w eg hless hswap hH hblk hab hb hsz h12
open Go.RowKit Go.Lib Go.Sort in
theorem Tryd.insertionSort_func_none (lf : Fn) (la lb : Array Value) (f : Nat) (sb : Array Value) (a b : Nat) (h : b ≤ a + 1) (ha : a < 4611686018427387904) (w : World) :
    Calls Tryd.prog 66 #[.agg #[.func lf la lb, .func (.func f) #[] sb], .int .i64 a, .int .i64 b] w fun e w' => e = .returned (.tuple #[]) ∧ w' = w.alloc (.cells #[.func lf la lb, .func (.func f) #[] sb] 112) := Any.insertionSort_func_none Tryd.laysGg26 lf la lb f sb a b h ha w
open Go.RowKit Go.Lib Go.Sort in
theorem Tryd.pdqsort_func_tiny (lf : Fn) (la lb : Array Value) (f : Nat) (sb : Array Value) (n : Nat) (h : n ≤ 1) (lim : Int) (w : World) :
    Calls Tryd.prog 45 #[.agg #[.func lf la lb, .func (.func f) #[] sb], .int .i64 0, .int .i64 n, .int .i64 lim] w fun e w' => e = .returned (.tuple #[]) ∧ w' = (w.alloc (.cells #[.func lf la lb, .func (.func f) #[] sb] 112)).alloc (.cells #[.func lf la lb, .func (.func f) #[] sb] 112) := Any.pdqsort_func_tiny Tryd.laysGg14 lf la lb f sb n h lim w
end Go.Proofs
