/- Contracts of the kit's shelf for bytes.growSlice, (*bytes.Buffer).tryGrowByReslice, encoding/binary's little endian and math/bits.Mul64 at this seat's translation, as the kit's own tools lay them in plain words. Conditions: as each states. -/
import Derived.Shelf.LaysM
import Derived.Shelf.Bytes.TryGrow
import Derived.Shelf.Bytes.GrowSliceCatch
import Derived.Shelf.Bytes.GrowSlice
import Derived.Shelf.Bin.LEUint32
import Derived.Shelf.Bin.LEUint64
import Derived.Shelf.Bin.LEPutUint64
import Derived.Shelf.Bytes.TryGrowAt
import Derived.Shelf.Bits.Mul64
import Derived.Ground.MnProg
import Derived.Test.YtkocgogpbammaaaDoorProg
namespace Go.Proofs
open Go.Shelf
def Tryd.laysM251_ren : Go.Shelf.Ren := ⟨fun | 251 => 25 | n => n, fun | 130 => 41 | 3 => 3 | 4 => 4 | 0 => 0 | 93 => 34 | 37 => 23 | 91 => 32 | 5 => 5 | n => n, fun | n => n⟩
theorem Tryd.laysM251 : Go.Proofs.LaysM.n251 Tryd.prog Tryd.laysM251_ren := {
  mixed := by kernel_rfl
  f251 := Tryd.func25.trans (congrArg some (by kernel_rfl))
  t0 := Tryd.underlying0
  a0 := Tryd.isAgg0
  z0 := Tryd.sizeOf0
  v0 := Tryd.zeroValue0
  t3 := Tryd.underlying3
  a3 := Tryd.isAgg3
  z3 := Tryd.sizeOf3
  v3 := Tryd.zeroValue3
  t4 := Tryd.underlying4
  a4 := Tryd.isAgg4
  z4 := Tryd.sizeOf4
  v4 := Tryd.zeroValue4
  t37 := Tryd.underlying23
  a37 := Tryd.isAgg23
  z37 := Tryd.sizeOf23
  v37 := Tryd.zeroValue23
  t93 := Tryd.underlying34
  a93 := Tryd.isAgg34
  z93 := Tryd.sizeOf34
  v93 := Tryd.zeroValue34
  t130 := Tryd.underlying41
  a130 := Tryd.isAgg41
  z130 := Tryd.sizeOf41
  v130 := Tryd.zeroValue41
  t5 := Tryd.underlying5
  a5 := Tryd.isAgg5
  z5 := Tryd.sizeOf5
  v5 := Tryd.zeroValue5
  t91 := Tryd.underlying32
  a91 := Tryd.isAgg32
  z91 := Tryd.sizeOf32
  v91 := Tryd.zeroValue32
  i0 := by kernel_rfl
  i3 := by kernel_rfl
  i4 := by kernel_rfl
  i5 := by kernel_rfl
  i37 := by kernel_rfl
  i91 := by kernel_rfl
  i93 := by kernel_rfl
  i130 := by kernel_rfl }
def Tryd.laysM290_ren : Go.Shelf.Ren := ⟨fun | 290 => 36 | 324 => 39 | n => n, fun | 37 => 23 | 3 => 3 | 0 => 0 | 4 => 4 | 20 => 20 | 75 => 37 | 5 => 5 | 80 => 94 | 9 => 9 | n => n, fun | 14 => 0 | n => n⟩
theorem Tryd.laysM290 : Go.Proofs.LaysM.n290 Tryd.prog Tryd.laysM290_ren := {
  mixed := by kernel_rfl
  f290 := Tryd.func36.trans (congrArg some (by kernel_rfl))
  f324 := Tryd.func39.trans (congrArg some (by kernel_rfl))
  t0 := Tryd.underlying0
  a0 := Tryd.isAgg0
  z0 := Tryd.sizeOf0
  v0 := Tryd.zeroValue0
  t3 := Tryd.underlying3
  a3 := Tryd.isAgg3
  z3 := Tryd.sizeOf3
  v3 := Tryd.zeroValue3
  t4 := Tryd.underlying4
  a4 := Tryd.isAgg4
  z4 := Tryd.sizeOf4
  v4 := Tryd.zeroValue4
  t20 := Tryd.underlying20
  a20 := Tryd.isAgg20
  z20 := Tryd.sizeOf20
  v20 := Tryd.zeroValue20
  t37 := Tryd.underlying23
  a37 := Tryd.isAgg23
  z37 := Tryd.sizeOf23
  v37 := Tryd.zeroValue23
  t75 := Tryd.underlying37
  a75 := Tryd.isAgg37
  z75 := Tryd.sizeOf37
  v75 := Tryd.zeroValue37
  g14 := by kernel_rfl
  t5 := Tryd.underlying5
  a5 := Tryd.isAgg5
  z5 := Tryd.sizeOf5
  v5 := Tryd.zeroValue5
  t9 := Tryd.underlying9
  a9 := Tryd.isAgg9
  z9 := Tryd.sizeOf9
  v9 := Tryd.zeroValue9
  t80 := Tryd.underlying94
  a80 := Tryd.isAgg94
  z80 := Tryd.sizeOf94
  v80 := Tryd.zeroValue94
  i0 := by kernel_rfl
  i3 := by kernel_rfl
  i4 := by kernel_rfl
  i5 := by kernel_rfl
  i9 := by kernel_rfl
  i20 := by kernel_rfl
  i37 := by kernel_rfl
  i75 := by kernel_rfl
  i80 := by kernel_rfl
  m14 := by kernel_rfl }
open Go.RowKit in
theorem Tryd.bytes_growSlice_row (g l c n : Nat) (cur : Array Value) (w : World) (hg : w.heap[g]? = some (.cells cur 5 (0, 0))) (hcs : cur.size = c) (hlc : l ≤ c) (hn : 1 ≤ n) (hlim : l + n ≤ 140737488355328) (hc2 : c ≤ 140737488355328) (h1 : ∀ v ∈ cur.toList.take l, v.oneCell' = true) :
    Calls Tryd.prog 36 #[.slice (some ⟨g, 0, none⟩) l c, .int .i64 n] w fun e w' => ∃ cap2 cells, e = .returned (.slice (some ⟨w.heap.size, 0, none⟩) l cap2) ∧ w'.heap[w.heap.size]? = some (.cells cells 5 (0, 0)) ∧
      cells.size = cap2 ∧ cells.toList.take l = cur.toList.take l ∧ l + n ≤ cap2 ∧ cap2 ≤ maxLen ∧ Below w.heap.size w w' := Any.bytes_growSlice_row Tryd.laysM290 g l c n cur w hg hcs hlc hn hlim hc2 h1
open Go.RowKit in
theorem Tryd.bytes_growSlice_nil (n : Nat) (w : World) (hn : 1 ≤ n) (hlim : n ≤ 140737488355328) :
    Calls Tryd.prog 36 #[.slice none 0 0, .int .i64 n] w fun e w' => ∃ cap2 cells, e = .returned (.slice (some ⟨w.heap.size, 0, none⟩) 0 cap2) ∧ w'.heap[w.heap.size]? = some (.cells cells 5 (0, 0)) ∧
      cells.size = cap2 ∧ n ≤ cap2 ∧ cap2 ≤ maxLen ∧ Below w.heap.size w w' := Any.bytes_growSlice_nil Tryd.laysM290 n w hn hlim
def Tryd.laysBin30_ren : Go.Shelf.Ren := ⟨fun | 30 => 75 | n => n, fun | 25 => 144 | 22 => 23 | 29 => 63 | 0 => 0 | 5 => 5 | 45 => 89 | n => n, fun | n => n⟩
theorem Tryd.laysBin30 : Go.Proofs.LaysBin.n30 Tryd.prog Tryd.laysBin30_ren := {
  mixed := by kernel_rfl
  f30 := Tryd.func75.trans (congrArg some (by kernel_rfl))
  t0 := Tryd.underlying0
  a0 := Tryd.isAgg0
  z0 := Tryd.sizeOf0
  v0 := Tryd.zeroValue0
  i0 := by kernel_rfl
  t5 := Tryd.underlying5
  a5 := Tryd.isAgg5
  z5 := Tryd.sizeOf5
  v5 := Tryd.zeroValue5
  i5 := by kernel_rfl
  t22 := Tryd.underlying23
  a22 := Tryd.isAgg23
  z22 := Tryd.sizeOf23
  v22 := Tryd.zeroValue23
  i22 := by kernel_rfl
  t25 := Tryd.underlying144
  a25 := Tryd.isAgg144
  z25 := Tryd.sizeOf144
  v25 := Tryd.zeroValue144
  i25 := by kernel_rfl
  t29 := Tryd.underlying63
  a29 := Tryd.isAgg63
  z29 := Tryd.sizeOf63
  v29 := Tryd.zeroValue63
  i29 := by kernel_rfl
  t45 := Tryd.underlying89
  a45 := Tryd.isAgg89
  z45 := Tryd.sizeOf89
  v45 := Tryd.zeroValue89
  i45 := by kernel_rfl }
open Go.RowKit in
theorem Tryd.binary_LE_Uint32 (g o n c : Nat) (b0 b1 b2 b3 : UInt8) (w : World) (hn : 4 ≤ n) (c0 : w.cell? ⟨g, o, none⟩ = some (.int .u8 b0.toNat)) (c1 : w.cell? ⟨g, o + 1, none⟩ = some (.int .u8 b1.toNat)) (c2 : w.cell? ⟨g, o + 2, none⟩ = some (.int .u8 b2.toNat)) (c3 : w.cell? ⟨g, o + 3, none⟩ = some (.int .u8 b3.toNat)) :
    Calls Tryd.prog 75 #[.agg #[], .slice (some ⟨g, o, none⟩) n c] w fun e w' => e = .returned (.int .u32 (Lib.leNat [b0, b1, b2, b3])) ∧ Below w.heap.size w w' := Any.binary_LE_Uint32 Tryd.laysBin30 g o n c b0 b1 b2 b3 w hn c0 c1 c2 c3
def Tryd.laysBin33_ren : Go.Shelf.Ren := ⟨fun | 33 => 78 | n => n, fun | 25 => 144 | 22 => 23 | 33 => 83 | 0 => 0 | 5 => 5 | 45 => 89 | n => n, fun | n => n⟩
theorem Tryd.laysBin33 : Go.Proofs.LaysBin.n33 Tryd.prog Tryd.laysBin33_ren := {
  mixed := by kernel_rfl
  f33 := Tryd.func78.trans (congrArg some (by kernel_rfl))
  t0 := Tryd.underlying0
  a0 := Tryd.isAgg0
  z0 := Tryd.sizeOf0
  v0 := Tryd.zeroValue0
  i0 := by kernel_rfl
  t5 := Tryd.underlying5
  a5 := Tryd.isAgg5
  z5 := Tryd.sizeOf5
  v5 := Tryd.zeroValue5
  i5 := by kernel_rfl
  t22 := Tryd.underlying23
  a22 := Tryd.isAgg23
  z22 := Tryd.sizeOf23
  v22 := Tryd.zeroValue23
  i22 := by kernel_rfl
  t25 := Tryd.underlying144
  a25 := Tryd.isAgg144
  z25 := Tryd.sizeOf144
  v25 := Tryd.zeroValue144
  i25 := by kernel_rfl
  t33 := Tryd.underlying83
  a33 := Tryd.isAgg83
  z33 := Tryd.sizeOf83
  v33 := Tryd.zeroValue83
  i33 := by kernel_rfl
  t45 := Tryd.underlying89
  a45 := Tryd.isAgg89
  z45 := Tryd.sizeOf89
  v45 := Tryd.zeroValue89
  i45 := by kernel_rfl }
open Go.RowKit in
theorem Tryd.binary_LE_Uint64 (g o n c : Nat) (b0 b1 b2 b3 b4 b5 b6 b7 : UInt8) (w : World) (hn : 8 ≤ n) (c0 : w.cell? ⟨g, o, none⟩ = some (.int .u8 b0.toNat)) (c1 : w.cell? ⟨g, o + 1, none⟩ = some (.int .u8 b1.toNat)) (c2 : w.cell? ⟨g, o + 2, none⟩ = some (.int .u8 b2.toNat)) (c3 : w.cell? ⟨g, o + 3, none⟩ = some (.int .u8 b3.toNat)) (c4 : w.cell? ⟨g, o + 4, none⟩ = some (.int .u8 b4.toNat)) (c5 : w.cell? ⟨g, o + 5, none⟩ = some (.int .u8 b5.toNat)) (c6 : w.cell? ⟨g, o + 6, none⟩ = some (.int .u8 b6.toNat)) (c7 : w.cell? ⟨g, o + 7, none⟩ = some (.int .u8 b7.toNat)) :
    Calls Tryd.prog 78 #[.agg #[], .slice (some ⟨g, o, none⟩) n c] w fun e w' => e = .returned (.int .u64 (Lib.leNat [b0, b1, b2, b3, b4, b5, b6, b7])) ∧ Below w.heap.size w w' := Any.binary_LE_Uint64 Tryd.laysBin33 g o n c b0 b1 b2 b3 b4 b5 b6 b7 w hn c0 c1 c2 c3 c4 c5 c6 c7
def Tryd.laysBin34_ren : Go.Shelf.Ren := ⟨fun | 34 => 90 | n => n, fun | 25 => 144 | 22 => 23 | 33 => 83 | 0 => 0 | 5 => 5 | 45 => 89 | n => n, fun | n => n⟩
theorem Tryd.laysBin34 : Go.Proofs.LaysBin.n34 Tryd.prog Tryd.laysBin34_ren := {
  mixed := by kernel_rfl
  f34 := Tryd.func90.trans (congrArg some (by kernel_rfl))
  t0 := Tryd.underlying0
  a0 := Tryd.isAgg0
  z0 := Tryd.sizeOf0
  v0 := Tryd.zeroValue0
  i0 := by kernel_rfl
  t5 := Tryd.underlying5
  a5 := Tryd.isAgg5
  z5 := Tryd.sizeOf5
  v5 := Tryd.zeroValue5
  i5 := by kernel_rfl
  t22 := Tryd.underlying23
  a22 := Tryd.isAgg23
  z22 := Tryd.sizeOf23
  v22 := Tryd.zeroValue23
  i22 := by kernel_rfl
  t25 := Tryd.underlying144
  a25 := Tryd.isAgg144
  z25 := Tryd.sizeOf144
  v25 := Tryd.zeroValue144
  i25 := by kernel_rfl
  t33 := Tryd.underlying83
  a33 := Tryd.isAgg83
  z33 := Tryd.sizeOf83
  v33 := Tryd.zeroValue83
  i33 := by kernel_rfl
  t45 := Tryd.underlying89
  a45 := Tryd.isAgg89
  z45 := Tryd.sizeOf89
  v45 := Tryd.zeroValue89
  i45 := by kernel_rfl }
open Go.RowKit in
theorem Tryd.binary_LE_PutUint64 (g o n c v : Nat) (hv : v < 18446744073709551616) (x0 x1 x2 x3 x4 x5 x6 x7 : Value) (w : World) (hn : 8 ≤ n) (c0 : w.cell? ⟨g, o, none⟩ = some x0) (c1 : w.cell? ⟨g, o + 1, none⟩ = some x1) (c2 : w.cell? ⟨g, o + 2, none⟩ = some x2) (c3 : w.cell? ⟨g, o + 3, none⟩ = some x3) (c4 : w.cell? ⟨g, o + 4, none⟩ = some x4) (c5 : w.cell? ⟨g, o + 5, none⟩ = some x5) (c6 : w.cell? ⟨g, o + 6, none⟩ = some x6) (c7 : w.cell? ⟨g, o + 7, none⟩ = some x7) (f0 : w.frozen? ⟨g, o, none⟩ = false) (f1 : w.frozen? ⟨g, o + 1, none⟩ = false) (f2 : w.frozen? ⟨g, o + 2, none⟩ = false) (f3 : w.frozen? ⟨g, o + 3, none⟩ = false) (f4 : w.frozen? ⟨g, o + 4, none⟩ = false) (f5 : w.frozen? ⟨g, o + 5, none⟩ = false) (f6 : w.frozen? ⟨g, o + 6, none⟩ = false) (f7 : w.frozen? ⟨g, o + 7, none⟩ = false) :
    Calls Tryd.prog 90 #[.agg #[], .slice (some ⟨g, o, none⟩) n c, .int .u64 v] w fun e w' => e = .returned (.tuple #[]) ∧ w' = (w.alloc (.cells #[] 144)).setCells g o (Lib.byteCells (Lib.leBytes 8 v)) := Any.binary_LE_PutUint64 Tryd.laysBin34 g o n c v hv x0 x1 x2 x3 x4 x5 x6 x7 w hn c0 c1 c2 c3 c4 c5 c6 c7 f0 f1 f2 f3 f4 f5 f6 f7
open Go.RowKit in
theorem Tryd.Buffer_tryGrow_room_at (b q : Nat) (ao : Option Addr) (l cap n : Nat) (w : World) (c0 : w.cell? ⟨b, q, none⟩ = some (.slice ao l cap)) (f0 : w.frozen? ⟨b, q, none⟩ = false) (hlc : l ≤ cap) (hcap : cap ≤ maxLen) (hn : n ≤ cap - l) :
    Calls Tryd.prog 25 #[.pointer (some ⟨b, q, none⟩), .int .i64 n] w fun e w' => e = .returned (.tuple #[.int .i64 l, .bool true]) ∧ w' = w.setCell ⟨b, q, none⟩ (.slice ao (l + n) cap) := Any.Buffer_tryGrow_room_at Tryd.laysM251 b q ao l cap n w c0 f0 hlc hcap hn
open Go.RowKit in
theorem Tryd.Buffer_tryGrow_none_at (b q : Nat) (ao : Option Addr) (l cap n : Nat) (w : World) (c0 : w.cell? ⟨b, q, none⟩ = some (.slice ao l cap)) (hlc : l ≤ cap) (hcap : cap ≤ maxLen) (hn : cap - l < n) :
    Calls Tryd.prog 25 #[.pointer (some ⟨b, q, none⟩), .int .i64 n] w fun e w' => e = .returned (.tuple #[.int .i64 0, .bool false]) ∧ w' = w := Any.Buffer_tryGrow_none_at Tryd.laysM251 b q ao l cap n w c0 hlc hcap hn
def Tryd.lays264_ren : Go.Shelf.Ren := ⟨fun | 264 => 92 | n => n, fun | 53 => 83 | 46 => 89 | n => n, fun | n => n⟩
theorem Tryd.lays264 : Go.Proofs.Lays.n264 Tryd.prog Tryd.lays264_ren := {
  mixed := by kernel_rfl
  f264 := Tryd.func92.trans (congrArg some (by kernel_rfl))
  t46 := Tryd.underlying89
  a46 := Tryd.isAgg89
  z46 := Tryd.sizeOf89
  v46 := Tryd.zeroValue89
  t53 := Tryd.underlying83
  a53 := Tryd.isAgg83
  z53 := Tryd.sizeOf83
  v53 := Tryd.zeroValue83 }
open Go.RowKit Go.Lib in
theorem Tryd.bits_Mul64 (x y : Nat) (hx : x < 18446744073709551616) (hy : y < 18446744073709551616) (w : World) :
    Calls Tryd.prog 92 #[.int .u64 x, .int .u64 y] w fun e w' => e = .returned (.tuple #[.int .u64 ((x * y / 18446744073709551616 : Nat) : Int), .int .u64 ((x * y % 18446744073709551616 : Nat) : Int)]) ∧ w' = w := Any.bits_Mul64 Tryd.lays264 x y hx hy w
end Go.Proofs
