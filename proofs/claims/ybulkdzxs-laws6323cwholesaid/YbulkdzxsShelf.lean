/-
  The shelf's contracts at this dump (math/bits, encoding/binary, bytes), laid in plain words by the kit's own tools (lay-shelf.mjs, lay-plain.mjs).
-/
import Derived.Shelf.Small.Bits
import Derived.Ground.MnProg
import Derived.Shelf.Bin.BEUint64
import Derived.Shelf.Bin.ReadersZ
import Derived.Ground.SlbCloneProg
import Derived.Shelf.Bytes.SlClone
import Derived.Shelf.Bytes.SlEqualAll
import Derived.Shelf.Bytes.Small
import Derived.Test.YbulkdzxsProg
namespace Go.Proofs
open Go.Shelf
def Yba.lays126_ren : Go.Shelf.Ren := ⟨fun | 126 => 15 | n => n, fun | 5 => 5 | 3 => 3 | 9 => 9 | n => n, fun | n => n⟩
theorem Yba.lays126 : Go.Proofs.Lays.n126 Yba.prog Yba.lays126_ren := {
  mixed := by kernel_rfl
  f126 := Yba.func15.trans (congrArg some (by kernel_rfl))
  t3 := Yba.underlying3
  a3 := Yba.isAgg3
  z3 := Yba.sizeOf3
  v3 := Yba.zeroValue3
  t5 := Yba.underlying5
  a5 := Yba.isAgg5
  z5 := Yba.sizeOf5
  v5 := Yba.zeroValue5
  t9 := Yba.underlying9
  a9 := Yba.isAgg9
  z9 := Yba.sizeOf9
  v9 := Yba.zeroValue9 }
/-- bits.Len8: "Len8 returns the minimum number of bits required to represent x; the result is 0 for x == 0.": IT RETURNS 'Lib.bitLen x'; the world is as it was. ('h0', 'h1': x is a uint8.) (LAID: no walk: one application.) -/
theorem Yba.bits_Len8 (x : Int) (w : World) (h0 : 0 ≤ x) (h1 : x ≤ 255) :
    Calls Yba.prog 15 #[.int .u8 x] w fun e w' => e = .returned (.int .i64 (Lib.bitLen x.toNat)) ∧ w' = w := Any.bits_Len8 Yba.lays126 x w h0 h1
def Yba.lays131_ren : Go.Shelf.Ren := ⟨fun | 131 => 14 | 126 => 15 | n => n, fun | 5 => 5 | 3 => 3 | 9 => 9 | n => n, fun | n => n⟩
theorem Yba.lays131 : Go.Proofs.Lays.n131 Yba.prog Yba.lays131_ren := {
  mixed := by kernel_rfl
  f126 := Yba.func15.trans (congrArg some (by kernel_rfl))
  f131 := Yba.func14.trans (congrArg some (by kernel_rfl))
  t3 := Yba.underlying3
  a3 := Yba.isAgg3
  z3 := Yba.sizeOf3
  v3 := Yba.zeroValue3
  t5 := Yba.underlying5
  a5 := Yba.isAgg5
  z5 := Yba.sizeOf5
  v5 := Yba.zeroValue5
  t9 := Yba.underlying9
  a9 := Yba.isAgg9
  z9 := Yba.sizeOf9
  v9 := Yba.zeroValue9 }
/-- bits.LeadingZeros8: "LeadingZeros8 returns the number of leading zero bits in x; the result is 8 for x == 0.": IT RETURNS '8 - Lib.bitLen x'; the world is as it was. ITS CALLEE bits.Len8 IS MET BY ITS OWN CONTRACT OFF THE SHELF (lay that first): ENTERED IN PLACE it sends the kernel out of memory. (LAID: no walk: one application.) -/
theorem Yba.bits_LeadingZeros8 (x : Int) (w : World) (h0 : 0 ≤ x) (h1 : x ≤ 255) :
    Calls Yba.prog 14 #[.int .u8 x] w fun e w' => e = .returned (.int .i64 (8 - (Lib.bitLen x.toNat : Int))) ∧ w' = w := Any.bits_LeadingZeros8 Yba.lays131 x w h0 h1
def Yba.laysBin42_ren : Go.Shelf.Ren := ⟨fun | 42 => 13 | n => n, fun | 37 => 48 | 22 => 22 | 33 => 25 | 0 => 0 | 5 => 5 | 45 => 44 | n => n, fun | n => n⟩
theorem Yba.laysBin42 : Go.Proofs.LaysBin.n42 Yba.prog Yba.laysBin42_ren := {
  mixed := by kernel_rfl
  f42 := Yba.func13.trans (congrArg some (by kernel_rfl))
  t0 := Yba.underlying0
  a0 := Yba.isAgg0
  z0 := Yba.sizeOf0
  v0 := Yba.zeroValue0
  i0 := by kernel_rfl
  t5 := Yba.underlying5
  a5 := Yba.isAgg5
  z5 := Yba.sizeOf5
  v5 := Yba.zeroValue5
  i5 := by kernel_rfl
  t22 := Yba.underlying22
  a22 := Yba.isAgg22
  z22 := Yba.sizeOf22
  v22 := Yba.zeroValue22
  i22 := by kernel_rfl
  t33 := Yba.underlying25
  a33 := Yba.isAgg25
  z33 := Yba.sizeOf25
  v33 := Yba.zeroValue25
  i33 := by kernel_rfl
  t37 := Yba.underlying48
  a37 := Yba.isAgg48
  z37 := Yba.sizeOf48
  v37 := Yba.zeroValue48
  i37 := by kernel_rfl
  t45 := Yba.underlying44
  a45 := Yba.isAgg44
  z45 := Yba.sizeOf44
  v45 := Yba.zeroValue44
  i45 := by kernel_rfl }
open Go.RowKit in
/-- binary.BigEndian.Uint64: "Uint64 returns the uint64 representation of b[0:8].": THE NUMBER THAT THE FIRST 8 BYTES SPELL, the greatest byte first ('Lib.beNat'). Of what was there nothing has turned (the receiver, an empty struct, is laid in a new block without cells; the statement's order is drawn). (LAID: no walk: one application.) -/
theorem Yba.binary_BE_Uint64 (g o n c : Nat) (b0 b1 b2 b3 b4 b5 b6 b7 : UInt8) (w : World) (hn : 8 ≤ n) (c0 : w.cell? ⟨g, o, none⟩ = some (.int .u8 b0.toNat)) (c1 : w.cell? ⟨g, o + 1, none⟩ = some (.int .u8 b1.toNat)) (c2 : w.cell? ⟨g, o + 2, none⟩ = some (.int .u8 b2.toNat)) (c3 : w.cell? ⟨g, o + 3, none⟩ = some (.int .u8 b3.toNat)) (c4 : w.cell? ⟨g, o + 4, none⟩ = some (.int .u8 b4.toNat)) (c5 : w.cell? ⟨g, o + 5, none⟩ = some (.int .u8 b5.toNat)) (c6 : w.cell? ⟨g, o + 6, none⟩ = some (.int .u8 b6.toNat)) (c7 : w.cell? ⟨g, o + 7, none⟩ = some (.int .u8 b7.toNat)) :
    Calls Yba.prog 13 #[.agg #[], .slice (some ⟨g, o, none⟩) n c] w fun e w' => e = .returned (.int .u64 (Lib.beNat [b0, b1, b2, b3, b4, b5, b6, b7])) ∧ Below w.heap.size w w' := Any.binary_BE_Uint64 Yba.laysBin42 g o n c b0 b1 b2 b3 b4 b5 b6 b7 w hn c0 c1 c2 c3 c4 c5 c6 c7
open Go.RowKit in
/-- binary.BigEndian.Uint64, ITS PREMISES 'open_ints'' CONCLUSION TO THE LETTER: a slice at WHATEVER address a, the numbers zs that its cells hold: THE NUMBER THAT THE FIRST 8 SPELL ('Lib.beZ'). (LAID: no walk: one application.) -/
theorem Yba.binary_BE_Uint64_z (a : Addr) (n c : Nat) (zs : List Int) (w : World) (hn : 8 ≤ n) (hl : 8 ≤ zs.length) (hcell : ∀ i, i < zs.length → w.cell? (a.add i) = some (.int .u8 (zs.getD i 0))) (hw : ∀ z ∈ zs, (Lit.int .u8 z).wf = true) :
    Calls Yba.prog 13 #[.agg #[], .slice (some a) n c] w fun e w' => e = .returned (.int .u64 (Lib.beZ (zs.take 8))) ∧ Below w.heap.size w w' := Any.binary_BE_Uint64_z Yba.laysBin42 a n c zs w hn hl hcell hw
def Yba.laysSlK4_ren : Go.Shelf.Ren := ⟨fun | 4 => 11 | n => n, fun | 22 => 22 | 4 => 4 | 5 => 5 | n => n, fun | n => n⟩
theorem Yba.laysSlK4 : Go.Proofs.SlLaysK.n4 Yba.prog Yba.laysSlK4_ren := {
  mixed := by kernel_rfl
  f4 := Yba.func11.trans (congrArg some (by kernel_rfl))
  t4 := Yba.underlying4
  a4 := Yba.isAgg4
  z4 := Yba.sizeOf4
  v4 := Yba.zeroValue4
  t22 := Yba.underlying22
  a22 := Yba.isAgg22
  z22 := Yba.sizeOf22
  v22 := Yba.zeroValue22
  t5 := Yba.underlying5
  i5 := by kernel_rfl }
open Go.RowKit Go.Lib in
/-- bytes.Clone: "Clone returns a copy of b[:len(b)]. The result may have additional unused capacity.": OF A SLICE THAT IS NOT nil IT RETURNS A SLICE THAT IS NOT nil, OF THE SAME BYTES, IN MEMORY OF THE CALL's OWN: in the how-to's words (6f): 'w'.ownsRow B e 1 v' n cells' · 'Below B w w'', B the heap's size at the call. b AT WHATEVER ADDRESS, its cells as 'open_ints' hands them ('a.add i'; the numbers 'xs'). No byte: no cell is asked for. (LAID: no walk: one application.) -/
theorem Yba.bytes_Clone_at (a : Addr) (n c : Nat) (xs : List Int) (w : World) (hx : xs.length = n) (hbig : n ≤ 140737488355328) (hc : ∀ i, i < n → w.cell? (a.add i) = some (.int .u8 (xs.getD i 0))) :
    Calls Yba.prog 11 #[.slice (some a) n c] w fun e w' => ∃ v', e = .returned v' ∧ w'.ownsRow w.heap.size 5 1 v' n (xs.map (Value.int .u8)) ∧ v' ≠ .slice none 0 0 ∧ Below w.heap.size w w' := Any.bytes_Clone_at Yba.laysSlK4 a n c xs w hx hbig hc
open Go.RowKit Go.Lib in
/-- "Clone(nil) returns nil.": the world is as it was. (LAID: no walk: one application.) -/
theorem Yba.bytes_Clone_nil (n c : Nat) (w : World) :
    Calls Yba.prog 11 #[.slice none n c] w fun e w' => e = .returned (.slice none 0 0) ∧ w' = w := Any.bytes_Clone_nil Yba.laysSlK4 n c w
def Yba.laysnb115_ren : Go.Shelf.Ren := ⟨fun | 115 => 10 | n => n, fun | 37 => 22 | 4 => 4 | 9 => 9 | 5 => 5 | n => n, fun | n => n⟩
theorem Yba.laysnb115 : Go.Proofs.Lays.nb115 Yba.prog Yba.laysnb115_ren := {
  mixed := by kernel_rfl
  f115 := Yba.func10.trans (congrArg some (by kernel_rfl))
  t4 := Yba.underlying4
  a4 := Yba.isAgg4
  z4 := Yba.sizeOf4
  v4 := Yba.zeroValue4
  t9 := Yba.underlying9
  a9 := Yba.isAgg9
  z9 := Yba.sizeOf9
  v9 := Yba.zeroValue9
  t37 := Yba.underlying22
  a37 := Yba.isAgg22
  z37 := Yba.sizeOf22
  v37 := Yba.zeroValue22
  t5 := Yba.underlying5
  a5 := Yba.isAgg5
  z5 := Yba.sizeOf5
  v5 := Yba.zeroValue5 }
/-- bytes.Equal: WHOLE. (LAID: no walk: one application.) -/
theorem Yba.bytes_Equal_all (p1 p2 : Option Addr) (n c m d : Nat) (xs ys : List Int) (w : World) (hx : xs.length = n) (hy : ys.length = m) (h1 : Lib.BytesIn w p1 n xs) (h2 : Lib.BytesIn w p2 m ys) :
    Calls Yba.prog 10 #[.slice p1 n c, .slice p2 m d] w fun e w' => e = .returned (.bool (Lib.bytesOf xs == Lib.bytesOf ys)) ∧ w' = w := Any.bytes_Equal_all Yba.laysnb115 p1 p2 n c m d xs ys w hx hy h1 h2
def Yba.lays115_ren : Go.Shelf.Ren := ⟨fun | 115 => 10 | n => n, fun | 37 => 22 | 4 => 4 | 9 => 9 | 5 => 5 | n => n, fun | n => n⟩
theorem Yba.lays115 : Go.Proofs.Lays.n115 Yba.prog Yba.lays115_ren := {
  mixed := by kernel_rfl
  f115 := Yba.func10.trans (congrArg some (by kernel_rfl))
  t4 := Yba.underlying4
  a4 := Yba.isAgg4
  z4 := Yba.sizeOf4
  v4 := Yba.zeroValue4
  t9 := Yba.underlying9
  a9 := Yba.isAgg9
  z9 := Yba.sizeOf9
  v9 := Yba.zeroValue9
  t37 := Yba.underlying22
  a37 := Yba.isAgg22
  z37 := Yba.sizeOf22
  v37 := Yba.zeroValue22 }
/-- bytes.Equal: "Equal reports whether a and b are the same length and contain the same bytes. A nil argument is equivalent to an empty slice.": IT RETURNS 'the bytes of the one == the bytes of the other'; the world is as it was. THE TWO ARGUMENTS COME AS WHATEVER VALUES, each with the one fact that the walk wants of it: what 'string(..)' of it gives: for a slice whose cells you know: 'run_convert_bytes_arg' (Derived/Laws/BytesArg.lean) hands that fact; for a nil one: 'run_convert_bytes_nil' (with xs := []). (LAID: no walk: one application.) -/
theorem Yba.bytes_Equal (v1 v2 : Value) (xs ys : List Int) (w : World) (h1 : (convert 22 9 v1).run Yba.prog w = .ok (.string (strOfNums xs)) w) (h2 : (convert 22 9 v2).run Yba.prog w = .ok (.string (strOfNums ys)) w) :
    Calls Yba.prog 10 #[v1, v2] w fun e w' => e = .returned (.bool (Lib.bytesOf xs == Lib.bytesOf ys)) ∧ w' = w := Any.bytes_Equal Yba.lays115 v1 v2 xs ys w h1 h2
end Go.Proofs
