/-
  DERIVED: THE SHELF's CONTRACTS AT THIS DUMP, IN PLAIN WORDS (tools/lay-plain.mjs out of 'TryShelf.lean', which tools/lay-shelf.mjs wrote): THE SAME DECLARATIONS UNDER THE SAME NAMES: 'import', 'namespace', 'open', 'def', 'theorem' AND NOTHING ELSE: no command of the shelf's: FOR A HAND-IN. Each laying: the table of numbers ('.._ren') and one theorem, a field a fact of the dump's own or the kernel's comparison; each contract: ONE APPLICATION.
-/
import Derived.Ground.MnProg
import Derived.Shelf.Bin.BEUint32
import Derived.Shelf.Bin.BEPutUint32
import Derived.Shelf.Bin.BEUint64
import Derived.Shelf.Bin.BEPutUint64
import Derived.Shelf.Bin.AppendUvarint
import Derived.Shelf.Bin.ReadersZ
import Derived.Shelf.Bin.AppendUvarintArg
import Derived.Test.Qxb6614219aProg
namespace Go.Proofs
open Go.Shelf
def Try.laysBin39_ren : Go.Shelf.Ren := ⟨fun | 39 => 44 | n => n, fun | 37 => 115 | 22 => 43 | 29 => 106 | 0 => 0 | 5 => 5 | 45 => 32 | n => n, fun | n => n⟩
theorem Try.laysBin39 : Go.Proofs.LaysBin.n39 Try.prog Try.laysBin39_ren := {
  mixed := by kernel_rfl
  f39 := Try.func44.trans (congrArg some (by kernel_rfl))
  t0 := Try.underlying0
  a0 := Try.isAgg0
  z0 := Try.sizeOf0
  v0 := Try.zeroValue0
  i0 := by kernel_rfl
  t5 := Try.underlying5
  a5 := Try.isAgg5
  z5 := Try.sizeOf5
  v5 := Try.zeroValue5
  i5 := by kernel_rfl
  t22 := Try.underlying43
  a22 := Try.isAgg43
  z22 := Try.sizeOf43
  v22 := Try.zeroValue43
  i22 := by kernel_rfl
  t29 := Try.underlying106
  a29 := Try.isAgg106
  z29 := Try.sizeOf106
  v29 := Try.zeroValue106
  i29 := by kernel_rfl
  t37 := Try.underlying115
  a37 := Try.isAgg115
  z37 := Try.sizeOf115
  v37 := Try.zeroValue115
  i37 := by kernel_rfl
  t45 := Try.underlying32
  a45 := Try.isAgg32
  z45 := Try.sizeOf32
  v45 := Try.zeroValue32
  i45 := by kernel_rfl }
open Go.RowKit in
/-- binary.BigEndian.Uint32: "Uint32 returns the uint32 representation of b[0:4].": THE NUMBER THAT THE FIRST 4 BYTES SPELL, the greatest byte first ('Lib.beNat'). Of what was there nothing has turned (the receiver, an empty struct, is laid in a new block without cells; the statement's order is drawn). (LAID: no walk: one application.) -/
theorem Try.binary_BE_Uint32 (g o n c : Nat) (b0 b1 b2 b3 : UInt8) (w : World) (hn : 4 ≤ n) (c0 : w.cell? ⟨g, o, none⟩ = some (.int .u8 b0.toNat)) (c1 : w.cell? ⟨g, o + 1, none⟩ = some (.int .u8 b1.toNat)) (c2 : w.cell? ⟨g, o + 2, none⟩ = some (.int .u8 b2.toNat)) (c3 : w.cell? ⟨g, o + 3, none⟩ = some (.int .u8 b3.toNat)) :
    Calls Try.prog 44 #[.agg #[], .slice (some ⟨g, o, none⟩) n c] w fun e w' => e = .returned (.int .u32 (Lib.beNat [b0, b1, b2, b3])) ∧ Below w.heap.size w w' := Any.binary_BE_Uint32 Try.laysBin39 g o n c b0 b1 b2 b3 w hn c0 c1 c2 c3
def Try.laysBin40_ren : Go.Shelf.Ren := ⟨fun | 40 => 47 | n => n, fun | 37 => 115 | 22 => 43 | 29 => 106 | 0 => 0 | 5 => 5 | 45 => 32 | n => n, fun | n => n⟩
theorem Try.laysBin40 : Go.Proofs.LaysBin.n40 Try.prog Try.laysBin40_ren := {
  mixed := by kernel_rfl
  f40 := Try.func47.trans (congrArg some (by kernel_rfl))
  t0 := Try.underlying0
  a0 := Try.isAgg0
  z0 := Try.sizeOf0
  v0 := Try.zeroValue0
  i0 := by kernel_rfl
  t5 := Try.underlying5
  a5 := Try.isAgg5
  z5 := Try.sizeOf5
  v5 := Try.zeroValue5
  i5 := by kernel_rfl
  t22 := Try.underlying43
  a22 := Try.isAgg43
  z22 := Try.sizeOf43
  v22 := Try.zeroValue43
  i22 := by kernel_rfl
  t29 := Try.underlying106
  a29 := Try.isAgg106
  z29 := Try.sizeOf106
  v29 := Try.zeroValue106
  i29 := by kernel_rfl
  t37 := Try.underlying115
  a37 := Try.isAgg115
  z37 := Try.sizeOf115
  v37 := Try.zeroValue115
  i37 := by kernel_rfl
  t45 := Try.underlying32
  a45 := Try.isAgg32
  z45 := Try.sizeOf32
  v45 := Try.zeroValue32
  i45 := by kernel_rfl }
open Go.RowKit in
/-- binary.BigEndian.PutUint32: "PutUint32 stores v into b[0:4].": v's 4 BYTES, the greatest first ('Lib.beBytes 4 v'), ARE LAID IN THE SLICE's FIRST 4 CELLS ('World.setCells'); nothing else turns (the receiver, an empty struct, is laid in a new block without cells). (LAID: no walk: one application.) -/
theorem Try.binary_BE_PutUint32 (g o n c v : Nat) (hv : v < 4294967296) (x0 x1 x2 x3 : Value) (w : World) (hn : 4 ≤ n) (c0 : w.cell? ⟨g, o, none⟩ = some x0) (c1 : w.cell? ⟨g, o + 1, none⟩ = some x1) (c2 : w.cell? ⟨g, o + 2, none⟩ = some x2) (c3 : w.cell? ⟨g, o + 3, none⟩ = some x3) (f0 : w.frozen? ⟨g, o, none⟩ = false) (f1 : w.frozen? ⟨g, o + 1, none⟩ = false) (f2 : w.frozen? ⟨g, o + 2, none⟩ = false) (f3 : w.frozen? ⟨g, o + 3, none⟩ = false) :
    Calls Try.prog 47 #[.agg #[], .slice (some ⟨g, o, none⟩) n c, .int .u32 v] w fun e w' => e = .returned (.tuple #[]) ∧ w' = (w.alloc (.cells #[] 115)).setCells g o (Lib.byteCells (Lib.beBytes 4 v)) := Any.binary_BE_PutUint32 Try.laysBin40 g o n c v hv x0 x1 x2 x3 w hn c0 c1 c2 c3 f0 f1 f2 f3
def Try.laysBin42_ren : Go.Shelf.Ren := ⟨fun | 42 => 45 | n => n, fun | 37 => 115 | 22 => 43 | 33 => 23 | 0 => 0 | 5 => 5 | 45 => 32 | n => n, fun | n => n⟩
theorem Try.laysBin42 : Go.Proofs.LaysBin.n42 Try.prog Try.laysBin42_ren := {
  mixed := by kernel_rfl
  f42 := Try.func45.trans (congrArg some (by kernel_rfl))
  t0 := Try.underlying0
  a0 := Try.isAgg0
  z0 := Try.sizeOf0
  v0 := Try.zeroValue0
  i0 := by kernel_rfl
  t5 := Try.underlying5
  a5 := Try.isAgg5
  z5 := Try.sizeOf5
  v5 := Try.zeroValue5
  i5 := by kernel_rfl
  t22 := Try.underlying43
  a22 := Try.isAgg43
  z22 := Try.sizeOf43
  v22 := Try.zeroValue43
  i22 := by kernel_rfl
  t33 := Try.underlying23
  a33 := Try.isAgg23
  z33 := Try.sizeOf23
  v33 := Try.zeroValue23
  i33 := by kernel_rfl
  t37 := Try.underlying115
  a37 := Try.isAgg115
  z37 := Try.sizeOf115
  v37 := Try.zeroValue115
  i37 := by kernel_rfl
  t45 := Try.underlying32
  a45 := Try.isAgg32
  z45 := Try.sizeOf32
  v45 := Try.zeroValue32
  i45 := by kernel_rfl }
open Go.RowKit in
/-- binary.BigEndian.Uint64: "Uint64 returns the uint64 representation of b[0:8].": THE NUMBER THAT THE FIRST 8 BYTES SPELL, the greatest byte first ('Lib.beNat'). Of what was there nothing has turned (the receiver, an empty struct, is laid in a new block without cells; the statement's order is drawn). (LAID: no walk: one application.) -/
theorem Try.binary_BE_Uint64 (g o n c : Nat) (b0 b1 b2 b3 b4 b5 b6 b7 : UInt8) (w : World) (hn : 8 ≤ n) (c0 : w.cell? ⟨g, o, none⟩ = some (.int .u8 b0.toNat)) (c1 : w.cell? ⟨g, o + 1, none⟩ = some (.int .u8 b1.toNat)) (c2 : w.cell? ⟨g, o + 2, none⟩ = some (.int .u8 b2.toNat)) (c3 : w.cell? ⟨g, o + 3, none⟩ = some (.int .u8 b3.toNat)) (c4 : w.cell? ⟨g, o + 4, none⟩ = some (.int .u8 b4.toNat)) (c5 : w.cell? ⟨g, o + 5, none⟩ = some (.int .u8 b5.toNat)) (c6 : w.cell? ⟨g, o + 6, none⟩ = some (.int .u8 b6.toNat)) (c7 : w.cell? ⟨g, o + 7, none⟩ = some (.int .u8 b7.toNat)) :
    Calls Try.prog 45 #[.agg #[], .slice (some ⟨g, o, none⟩) n c] w fun e w' => e = .returned (.int .u64 (Lib.beNat [b0, b1, b2, b3, b4, b5, b6, b7])) ∧ Below w.heap.size w w' := Any.binary_BE_Uint64 Try.laysBin42 g o n c b0 b1 b2 b3 b4 b5 b6 b7 w hn c0 c1 c2 c3 c4 c5 c6 c7
def Try.laysBin43_ren : Go.Shelf.Ren := ⟨fun | 43 => 48 | n => n, fun | 37 => 115 | 22 => 43 | 33 => 23 | 0 => 0 | 5 => 5 | 45 => 32 | n => n, fun | n => n⟩
theorem Try.laysBin43 : Go.Proofs.LaysBin.n43 Try.prog Try.laysBin43_ren := {
  mixed := by kernel_rfl
  f43 := Try.func48.trans (congrArg some (by kernel_rfl))
  t0 := Try.underlying0
  a0 := Try.isAgg0
  z0 := Try.sizeOf0
  v0 := Try.zeroValue0
  i0 := by kernel_rfl
  t5 := Try.underlying5
  a5 := Try.isAgg5
  z5 := Try.sizeOf5
  v5 := Try.zeroValue5
  i5 := by kernel_rfl
  t22 := Try.underlying43
  a22 := Try.isAgg43
  z22 := Try.sizeOf43
  v22 := Try.zeroValue43
  i22 := by kernel_rfl
  t33 := Try.underlying23
  a33 := Try.isAgg23
  z33 := Try.sizeOf23
  v33 := Try.zeroValue23
  i33 := by kernel_rfl
  t37 := Try.underlying115
  a37 := Try.isAgg115
  z37 := Try.sizeOf115
  v37 := Try.zeroValue115
  i37 := by kernel_rfl
  t45 := Try.underlying32
  a45 := Try.isAgg32
  z45 := Try.sizeOf32
  v45 := Try.zeroValue32
  i45 := by kernel_rfl }
open Go.RowKit in
/-- binary.BigEndian.PutUint64: "PutUint64 stores v into b[0:8].": v's 8 BYTES, the greatest first ('Lib.beBytes 8 v'), ARE LAID IN THE SLICE's FIRST 8 CELLS ('World.setCells'); nothing else turns (the receiver, an empty struct, is laid in a new block without cells). (LAID: no walk: one application.) -/
theorem Try.binary_BE_PutUint64 (g o n c v : Nat) (hv : v < 18446744073709551616) (x0 x1 x2 x3 x4 x5 x6 x7 : Value) (w : World) (hn : 8 ≤ n) (c0 : w.cell? ⟨g, o, none⟩ = some x0) (c1 : w.cell? ⟨g, o + 1, none⟩ = some x1) (c2 : w.cell? ⟨g, o + 2, none⟩ = some x2) (c3 : w.cell? ⟨g, o + 3, none⟩ = some x3) (c4 : w.cell? ⟨g, o + 4, none⟩ = some x4) (c5 : w.cell? ⟨g, o + 5, none⟩ = some x5) (c6 : w.cell? ⟨g, o + 6, none⟩ = some x6) (c7 : w.cell? ⟨g, o + 7, none⟩ = some x7) (f0 : w.frozen? ⟨g, o, none⟩ = false) (f1 : w.frozen? ⟨g, o + 1, none⟩ = false) (f2 : w.frozen? ⟨g, o + 2, none⟩ = false) (f3 : w.frozen? ⟨g, o + 3, none⟩ = false) (f4 : w.frozen? ⟨g, o + 4, none⟩ = false) (f5 : w.frozen? ⟨g, o + 5, none⟩ = false) (f6 : w.frozen? ⟨g, o + 6, none⟩ = false) (f7 : w.frozen? ⟨g, o + 7, none⟩ = false) :
    Calls Try.prog 48 #[.agg #[], .slice (some ⟨g, o, none⟩) n c, .int .u64 v] w fun e w' => e = .returned (.tuple #[]) ∧ w' = (w.alloc (.cells #[] 115)).setCells g o (Lib.byteCells (Lib.beBytes 8 v)) := Any.binary_BE_PutUint64 Try.laysBin43 g o n c v hv x0 x1 x2 x3 x4 x5 x6 x7 w hn c0 c1 c2 c3 c4 c5 c6 c7 f0 f1 f2 f3 f4 f5 f6 f7
def Try.laysBin47_ren : Go.Shelf.Ren := ⟨fun | 47 => 43 | n => n, fun | 22 => 43 | 33 => 23 | 4 => 4 | 5 => 5 | 45 => 32 | n => n, fun | n => n⟩
theorem Try.laysBin47 : Go.Proofs.LaysBin.n47 Try.prog Try.laysBin47_ren := {
  mixed := by kernel_rfl
  f47 := Try.func43.trans (congrArg some (by kernel_rfl))
  t4 := Try.underlying4
  a4 := Try.isAgg4
  z4 := Try.sizeOf4
  v4 := Try.zeroValue4
  i4 := by kernel_rfl
  t5 := Try.underlying5
  a5 := Try.isAgg5
  z5 := Try.sizeOf5
  v5 := Try.zeroValue5
  i5 := by kernel_rfl
  t22 := Try.underlying43
  a22 := Try.isAgg43
  z22 := Try.sizeOf43
  v22 := Try.zeroValue43
  i22 := by kernel_rfl
  t33 := Try.underlying23
  a33 := Try.isAgg23
  z33 := Try.sizeOf23
  v33 := Try.zeroValue23
  i33 := by kernel_rfl
  t45 := Try.underlying32
  a45 := Try.isAgg32
  z45 := Try.sizeOf32
  v45 := Try.zeroValue32
  i45 := by kernel_rfl }
open Go.RowKit in
/-- binary.AppendUvarint: "AppendUvarint appends the varint-encoded form of x, as generated by PutUvarint, to buf and returns the extended buffer.": WHAT COMES BACK OWNS buf's CELLS AND, BEHIND THEM, x's VARINT ('Lib.uvarint x': seven bits a byte, the least first; at most ten bytes). Below the call's own blocks nothing has turned. (LAID: no walk: one application.) -/
theorem Try.binary_AppendUvarint (B n x : Nat) (hx : x < 18446744073709551616) (sv : Value) (xs : List Value) (w : World) (hown : w.ownsRow B 5 1 sv n xs) (hBw : B ≤ w.heap.size) (hlim : n + 10 ≤ 140737488355328) :
    Calls Try.prog 43 #[sv, .int .u64 x] w fun e w' => ∃ v', e = .returned v' ∧ w'.ownsRow B 5 1 v' (n + (Lib.uvarint x).length) (xs ++ Lib.byteCells (Lib.uvarint x)) ∧ Below B w w' := Any.binary_AppendUvarint Try.laysBin47 B n x hx sv xs w hown hBw hlim
open Go.RowKit in
/-- binary.BigEndian.Uint32, ITS PREMISES 'open_ints'' CONCLUSION TO THE LETTER: a slice at WHATEVER address a, the numbers zs that its cells hold: THE NUMBER THAT THE FIRST 4 SPELL ('Lib.beZ'). (LAID: no walk: one application.) -/
theorem Try.binary_BE_Uint32_z (a : Addr) (n c : Nat) (zs : List Int) (w : World) (hn : 4 ≤ n) (hl : 4 ≤ zs.length) (hcell : ∀ i, i < zs.length → w.cell? (a.add i) = some (.int .u8 (zs.getD i 0))) (hw : ∀ z ∈ zs, (Lit.int .u8 z).wf = true) :
    Calls Try.prog 44 #[.agg #[], .slice (some a) n c] w fun e w' => e = .returned (.int .u32 (Lib.beZ (zs.take 4))) ∧ Below w.heap.size w w' := Any.binary_BE_Uint32_z Try.laysBin39 a n c zs w hn hl hcell hw
open Go.RowKit in
/-- binary.BigEndian.Uint64, ITS PREMISES 'open_ints'' CONCLUSION TO THE LETTER: a slice at WHATEVER address a, the numbers zs that its cells hold: THE NUMBER THAT THE FIRST 8 SPELL ('Lib.beZ'). (LAID: no walk: one application.) -/
theorem Try.binary_BE_Uint64_z (a : Addr) (n c : Nat) (zs : List Int) (w : World) (hn : 8 ≤ n) (hl : 8 ≤ zs.length) (hcell : ∀ i, i < zs.length → w.cell? (a.add i) = some (.int .u8 (zs.getD i 0))) (hw : ∀ z ∈ zs, (Lit.int .u8 z).wf = true) :
    Calls Try.prog 45 #[.agg #[], .slice (some a) n c] w fun e w' => e = .returned (.int .u64 (Lib.beZ (zs.take 8))) ∧ Below w.heap.size w w' := Any.binary_BE_Uint64_z Try.laysBin42 a n c zs w hn hl hcell hw
open Go.RowKit in
/-- binary.AppendUvarint, buf A SLICE THAT CAME IN ('Came W0 ..'), onto which m bytes ('ks') have been appended so far: BEHIND THE CALL: x's VARINT BESIDES ('Lib.uvarint x': at most ten bytes). (LAID: no walk: one application.) -/
theorem Try.binary_AppendUvarint_arg (W0 : World) (ao : Option Addr) (b off len cap : Nat) (olds : List Value) (hc : Came W0 1 ao b off len cap olds) (x : Nat) (hx : x < 18446744073709551616) (sv : Value) (m : Nat) (ks : List Value) (w : World) (honto : Onto W0 5 1 ao b off len cap olds w sv m ks) (hlim : len + m + 10 ≤ 140737488355328) :
    Calls Try.prog 43 #[sv, .int .u64 x] w fun e w' => ∃ v', e = .returned v' ∧ Onto W0 5 1 ao b off len cap olds w' v' (m + (Lib.uvarint x).length) (ks ++ Lib.byteCells (Lib.uvarint x)) := Any.binary_AppendUvarint_arg Try.laysBin47 W0 ao b off len cap olds hc x hx sv m ks w honto hlim
end Go.Proofs
