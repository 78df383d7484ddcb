/-
  DERIVED: THE SHELF's CONTRACTS AT THIS DUMP, IN PLAIN WORDS (tools/lay-plain.mjs out of 'TryShelf.lean', which tools/lay-shelf.mjs wrote): THE SAME DECLARATIONS UNDER THE SAME NAMES: 'import', 'namespace', 'open', 'def', 'theorem' AND NOTHING ELSE: no command of the shelf's: FOR A HAND-IN. Each laying: the table of numbers ('.._ren') and one theorem, a field a fact of the dump's own or the kernel's comparison; each contract: ONE APPLICATION.
-/
import Derived.Shelf.Small.Bits
import Derived.Shelf.Strconv.Itoa0
import Derived.Shelf.LaysM
import Derived.Shelf.Bytes.Len
import Derived.Shelf.Bytes.TryGrow
import Derived.Shelf.Bytes.GrowSliceCatch
import Derived.Shelf.Bytes.GrowSlice
import Derived.Shelf.Bytes.Bytes
import Derived.Shelf.Sort.Plain
import Derived.Shelf.Bytes.GrowRow0Own
import Derived.Shelf.Bytes.GrowRowOwn
import Derived.Shelf.Bytes.GrowNilOwn
import Derived.Shelf.Bytes.GrowOwn
import Derived.Shelf.Bytes.WriteAny
import Derived.Shelf.Slices.In.SortNone
import Derived.Test.YtpjehmblndjknaaProg
namespace Go.Proofs
open Go.Shelf
def Try.lays128_ren : Go.Shelf.Ren := ⟨fun | 128 => 63 | n => n, fun | 51 => 136 | 3 => 3 | 4 => 4 | 46 => 86 | 5 => 5 | 9 => 9 | n => n, fun | n => n⟩
theorem Try.lays128 : Go.Proofs.Lays.n128 Try.prog Try.lays128_ren := {
  mixed := by kernel_rfl
  f128 := Try.func63.trans (congrArg some (by kernel_rfl))
  t3 := Try.underlying3
  a3 := Try.isAgg3
  z3 := Try.sizeOf3
  v3 := Try.zeroValue3
  t4 := Try.underlying4
  a4 := Try.isAgg4
  z4 := Try.sizeOf4
  v4 := Try.zeroValue4
  t5 := Try.underlying5
  a5 := Try.isAgg5
  z5 := Try.sizeOf5
  v5 := Try.zeroValue5
  t9 := Try.underlying9
  a9 := Try.isAgg9
  z9 := Try.sizeOf9
  v9 := Try.zeroValue9
  t46 := Try.underlying86
  a46 := Try.isAgg86
  z46 := Try.sizeOf86
  v46 := Try.zeroValue86
  t51 := Try.underlying136
  a51 := Try.isAgg136
  z51 := Try.sizeOf136
  v51 := Try.zeroValue136 }
/-- bits.Len32: "Len32 returns the minimum number of bits required to represent x; the result is 0 for x == 0.": IT RETURNS 'Lib.bitLen x'; the world is as it was. ('h0', 'h1': x is a uint32.) (LAID: no walk: one application.) -/
theorem Try.bits_Len32 (x : Int) (w : World) (h0 : 0 ≤ x) (h1 : x ≤ 4294967295) :
    Calls Try.prog 63 #[.int .u32 x] w fun e w' => e = .returned (.int .i64 (Lib.bitLen x.toNat)) ∧ w' = w := Any.bits_Len32 Try.lays128 x w h0 h1
def Try.lays125_ren : Go.Shelf.Ren := ⟨fun | 125 => 51 | 128 => 63 | 129 => 64 | n => n, fun | 46 => 86 | 3 => 3 | 51 => 136 | 53 => 138 | 4 => 4 | 5 => 5 | 9 => 9 | n => n, fun | n => n⟩
theorem Try.lays125 : Go.Proofs.Lays.n125 Try.prog Try.lays125_ren := {
  mixed := by kernel_rfl
  f125 := Try.func51.trans (congrArg some (by kernel_rfl))
  f128 := Try.func63.trans (congrArg some (by kernel_rfl))
  f129 := Try.func64.trans (congrArg some (by kernel_rfl))
  t3 := Try.underlying3
  a3 := Try.isAgg3
  z3 := Try.sizeOf3
  v3 := Try.zeroValue3
  t4 := Try.underlying4
  a4 := Try.isAgg4
  z4 := Try.sizeOf4
  v4 := Try.zeroValue4
  t5 := Try.underlying5
  a5 := Try.isAgg5
  z5 := Try.sizeOf5
  v5 := Try.zeroValue5
  t9 := Try.underlying9
  a9 := Try.isAgg9
  z9 := Try.sizeOf9
  v9 := Try.zeroValue9
  t46 := Try.underlying86
  a46 := Try.isAgg86
  z46 := Try.sizeOf86
  v46 := Try.zeroValue86
  t51 := Try.underlying136
  a51 := Try.isAgg136
  z51 := Try.sizeOf136
  v51 := Try.zeroValue136
  t53 := Try.underlying138
  a53 := Try.isAgg138
  z53 := Try.sizeOf138
  v53 := Try.zeroValue138 }
/-- bits.Len: "Len returns the minimum number of bits required to represent x; the result is 0 for x == 0.": IT RETURNS 'Lib.bitLen x'; the world is as it was. (A uint has 64 bits in the model.) ITS CALLEE bits.Len64 IS MET BY ITS OWN CONTRACT OFF THE SHELF (lay that first). (LAID: no walk: one application.) -/
theorem Try.bits_Len (x : Int) (w : World) (h0 : 0 ≤ x) (h1 : x ≤ 18446744073709551615) :
    Calls Try.prog 51 #[.int .u64 x] w fun e w' => e = .returned (.int .i64 (Lib.bitLen x.toNat)) ∧ w' = w := Any.bits_Len Try.lays125 x w h0 h1
def Try.lays129_ren : Go.Shelf.Ren := ⟨fun | 129 => 64 | n => n, fun | 53 => 138 | 3 => 3 | 4 => 4 | 46 => 86 | 5 => 5 | 9 => 9 | n => n, fun | n => n⟩
theorem Try.lays129 : Go.Proofs.Lays.n129 Try.prog Try.lays129_ren := {
  mixed := by kernel_rfl
  f129 := Try.func64.trans (congrArg some (by kernel_rfl))
  t3 := Try.underlying3
  a3 := Try.isAgg3
  z3 := Try.sizeOf3
  v3 := Try.zeroValue3
  t4 := Try.underlying4
  a4 := Try.isAgg4
  z4 := Try.sizeOf4
  v4 := Try.zeroValue4
  t5 := Try.underlying5
  a5 := Try.isAgg5
  z5 := Try.sizeOf5
  v5 := Try.zeroValue5
  t9 := Try.underlying9
  a9 := Try.isAgg9
  z9 := Try.sizeOf9
  v9 := Try.zeroValue9
  t46 := Try.underlying86
  a46 := Try.isAgg86
  z46 := Try.sizeOf86
  v46 := Try.zeroValue86
  t53 := Try.underlying138
  a53 := Try.isAgg138
  z53 := Try.sizeOf138
  v53 := Try.zeroValue138 }
/-- bits.Len64: "Len64 returns the minimum number of bits required to represent x; the result is 0 for x == 0.": IT RETURNS 'Lib.bitLen x'; the world is as it was. ('h0', 'h1': x is a uint64.) (LAID: no walk: one application.) -/
theorem Try.bits_Len64 (x : Int) (w : World) (h0 : 0 ≤ x) (h1 : x ≤ 18446744073709551615) :
    Calls Try.prog 64 #[.int .u64 x] w fun e w' => e = .returned (.int .i64 (Lib.bitLen x.toNat)) ∧ w' = w := Any.bits_Len64 Try.lays129 x w h0 h1
def Try.laysM181_ren : Go.Shelf.Ren := ⟨fun | 181 => 94 | n => n, fun | 130 => 75 | 3 => 3 | 0 => 0 | 93 => 74 | 37 => 22 | 91 => 72 | 5 => 5 | n => n, fun | n => n⟩
theorem Try.laysM181 : Go.Proofs.LaysM.n181 Try.prog Try.laysM181_ren := {
  mixed := by kernel_rfl
  f181 := Try.func94.trans (congrArg some (by kernel_rfl))
  t0 := Try.underlying0
  a0 := Try.isAgg0
  z0 := Try.sizeOf0
  v0 := Try.zeroValue0
  t3 := Try.underlying3
  a3 := Try.isAgg3
  z3 := Try.sizeOf3
  v3 := Try.zeroValue3
  t37 := Try.underlying22
  a37 := Try.isAgg22
  z37 := Try.sizeOf22
  v37 := Try.zeroValue22
  t93 := Try.underlying74
  a93 := Try.isAgg74
  z93 := Try.sizeOf74
  v93 := Try.zeroValue74
  t130 := Try.underlying75
  a130 := Try.isAgg75
  z130 := Try.sizeOf75
  v130 := Try.zeroValue75
  t5 := Try.underlying5
  a5 := Try.isAgg5
  z5 := Try.sizeOf5
  v5 := Try.zeroValue5
  t91 := Try.underlying72
  a91 := Try.isAgg72
  z91 := Try.sizeOf72
  v91 := Try.zeroValue72
  i0 := by kernel_rfl
  i3 := by kernel_rfl
  i5 := by kernel_rfl
  i37 := by kernel_rfl
  i91 := by kernel_rfl
  i93 := by kernel_rfl
  i130 := by kernel_rfl }
open Go.RowKit in
/-- (*bytes.Buffer).Len: "Len returns the number of bytes of the unread portion of the buffer; b.Len() == len(b.Bytes()).": the world is as it was but for the count of draws (the statement has two reads: its order is drawn). (LAID: no walk: one application.) -/
theorem Try.Buffer_Len (B b : Nat) (bs : List Value) (w : World) (h : Lib.IsBuffer 74 5 B b bs w) :
    Calls Try.prog 94 #[.pointer (some ⟨b, 0, none⟩)] w fun e w' => e = .returned (.int .i64 bs.length) ∧ ∃ n, w' = w.drewN n := Any.Buffer_Len Try.laysM181 B b bs w h
def Try.laysM251_ren : Go.Shelf.Ren := ⟨fun | 251 => 92 | n => n, fun | 130 => 75 | 3 => 3 | 4 => 4 | 0 => 0 | 93 => 74 | 37 => 22 | 91 => 72 | 5 => 5 | n => n, fun | n => n⟩
theorem Try.laysM251 : Go.Proofs.LaysM.n251 Try.prog Try.laysM251_ren := {
  mixed := by kernel_rfl
  f251 := Try.func92.trans (congrArg some (by kernel_rfl))
  t0 := Try.underlying0
  a0 := Try.isAgg0
  z0 := Try.sizeOf0
  v0 := Try.zeroValue0
  t3 := Try.underlying3
  a3 := Try.isAgg3
  z3 := Try.sizeOf3
  v3 := Try.zeroValue3
  t4 := Try.underlying4
  a4 := Try.isAgg4
  z4 := Try.sizeOf4
  v4 := Try.zeroValue4
  t37 := Try.underlying22
  a37 := Try.isAgg22
  z37 := Try.sizeOf22
  v37 := Try.zeroValue22
  t93 := Try.underlying74
  a93 := Try.isAgg74
  z93 := Try.sizeOf74
  v93 := Try.zeroValue74
  t130 := Try.underlying75
  a130 := Try.isAgg75
  z130 := Try.sizeOf75
  v130 := Try.zeroValue75
  t5 := Try.underlying5
  a5 := Try.isAgg5
  z5 := Try.sizeOf5
  v5 := Try.zeroValue5
  t91 := Try.underlying72
  a91 := Try.isAgg72
  z91 := Try.sizeOf72
  v91 := Try.zeroValue72
  i0 := by kernel_rfl
  i3 := by kernel_rfl
  i4 := by kernel_rfl
  i5 := by kernel_rfl
  i37 := by kernel_rfl
  i91 := by kernel_rfl
  i93 := by kernel_rfl
  i130 := by kernel_rfl }
open Go.RowKit in
/-- (*bytes.Buffer).tryGrowByReslice: "tryGrowByReslice is an inlineable version of grow for the fast-case where the internal buffer only needs to be resliced. It returns the index where bytes should be written and whether it succeeded.": THERE IS ROOM: 'buf' is resliced to l + n. (LAID: no walk: one application.) -/
theorem Try.Buffer_tryGrow_room (b : Nat) (ao : Option Addr) (l cap n : Nat) (w : World) (c0 : w.cell? ⟨b, 0, none⟩ = some (.slice ao l cap)) (f0 : w.frozen? ⟨b, 0, none⟩ = false) (hlc : l ≤ cap) (hcap : cap ≤ maxLen) (hn : n ≤ cap - l) :
    Calls Try.prog 92 #[.pointer (some ⟨b, 0, none⟩), .int .i64 n] w fun e w' => e = .returned (.tuple #[.int .i64 l, .bool true]) ∧ w' = w.setCell ⟨b, 0, none⟩ (.slice ao (l + n) cap) := Any.Buffer_tryGrow_room Try.laysM251 b ao l cap n w c0 f0 hlc hcap hn
open Go.RowKit in
/-- .. THERE IS NONE: nothing turns. (LAID: no walk: one application.) -/
theorem Try.Buffer_tryGrow_none (b : Nat) (ao : Option Addr) (l cap n : Nat) (w : World) (c0 : w.cell? ⟨b, 0, none⟩ = some (.slice ao l cap)) (hlc : l ≤ cap) (hcap : cap ≤ maxLen) (hn : cap - l < n) :
    Calls Try.prog 92 #[.pointer (some ⟨b, 0, none⟩), .int .i64 n] w fun e w' => e = .returned (.tuple #[.int .i64 0, .bool false]) ∧ w' = w := Any.Buffer_tryGrow_none Try.laysM251 b ao l cap n w c0 hlc hcap hn
def Try.laysM324_ren : Go.Shelf.Ren := ⟨fun | 324 => 96 | n => n, fun | 20 => 20 | 4 => 4 | 75 => 66 | 0 => 0 | 80 => 151 | 9 => 9 | n => n, fun | 14 => 0 | n => n⟩
theorem Try.laysM324 : Go.Proofs.LaysM.n324 Try.prog Try.laysM324_ren := {
  mixed := by kernel_rfl
  f324 := Try.func96.trans (congrArg some (by kernel_rfl))
  t0 := Try.underlying0
  a0 := Try.isAgg0
  z0 := Try.sizeOf0
  v0 := Try.zeroValue0
  t4 := Try.underlying4
  a4 := Try.isAgg4
  z4 := Try.sizeOf4
  v4 := Try.zeroValue4
  t20 := Try.underlying20
  a20 := Try.isAgg20
  z20 := Try.sizeOf20
  v20 := Try.zeroValue20
  t75 := Try.underlying66
  a75 := Try.isAgg66
  z75 := Try.sizeOf66
  v75 := Try.zeroValue66
  g14 := by kernel_rfl
  t9 := Try.underlying9
  a9 := Try.isAgg9
  z9 := Try.sizeOf9
  v9 := Try.zeroValue9
  t80 := Try.underlying151
  a80 := Try.isAgg151
  z80 := Try.sizeOf151
  v80 := Try.zeroValue151
  i0 := by kernel_rfl
  i4 := by kernel_rfl
  i9 := by kernel_rfl
  i20 := by kernel_rfl
  i75 := by kernel_rfl
  i80 := by kernel_rfl
  m14 := by kernel_rfl }
theorem Try.growSlice_catch_idle (w : World) :
    CallsD Try.prog 96 #[] .returning w fun e u' w' => e = .returned (.tuple #[]) ∧ u' = .returning ∧ w' = w := Any.growSlice_catch_idle Try.laysM324 w
def Try.laysM290_ren : Go.Shelf.Ren := ⟨fun | 290 => 95 | 324 => 96 | n => n, fun | 37 => 22 | 3 => 3 | 0 => 0 | 4 => 4 | 20 => 20 | 75 => 66 | 5 => 5 | 80 => 151 | 9 => 9 | n => n, fun | 14 => 0 | n => n⟩
theorem Try.laysM290 : Go.Proofs.LaysM.n290 Try.prog Try.laysM290_ren := {
  mixed := by kernel_rfl
  f290 := Try.func95.trans (congrArg some (by kernel_rfl))
  f324 := Try.func96.trans (congrArg some (by kernel_rfl))
  t0 := Try.underlying0
  a0 := Try.isAgg0
  z0 := Try.sizeOf0
  v0 := Try.zeroValue0
  t3 := Try.underlying3
  a3 := Try.isAgg3
  z3 := Try.sizeOf3
  v3 := Try.zeroValue3
  t4 := Try.underlying4
  a4 := Try.isAgg4
  z4 := Try.sizeOf4
  v4 := Try.zeroValue4
  t20 := Try.underlying20
  a20 := Try.isAgg20
  z20 := Try.sizeOf20
  v20 := Try.zeroValue20
  t37 := Try.underlying22
  a37 := Try.isAgg22
  z37 := Try.sizeOf22
  v37 := Try.zeroValue22
  t75 := Try.underlying66
  a75 := Try.isAgg66
  z75 := Try.sizeOf66
  v75 := Try.zeroValue66
  g14 := by kernel_rfl
  t5 := Try.underlying5
  a5 := Try.isAgg5
  z5 := Try.sizeOf5
  v5 := Try.zeroValue5
  t9 := Try.underlying9
  a9 := Try.isAgg9
  z9 := Try.sizeOf9
  v9 := Try.zeroValue9
  t80 := Try.underlying151
  a80 := Try.isAgg151
  z80 := Try.sizeOf151
  v80 := Try.zeroValue151
  i0 := by kernel_rfl
  i3 := by kernel_rfl
  i4 := by kernel_rfl
  i5 := by kernel_rfl
  i9 := by kernel_rfl
  i20 := by kernel_rfl
  i37 := by kernel_rfl
  i75 := by kernel_rfl
  i80 := by kernel_rfl
  m14 := by kernel_rfl }
open Go.RowKit in
/-- bytes.growSlice: "growSlice grows b by n, preserving the original content of b.": OF A SLICE THAT LIES AT THE HEAD OF A ROW: a new row, number 'w.heap.size': it begins with b's l cells; its capacity has room for n more; whatever lay below is as it was. (LAID: no walk: one application.) -/
theorem Try.bytes_growSlice_row (g l c n : Nat) (cur : Array Value) (w : World) (hg : w.heap[g]? = some (.cells cur 5 (0, 0))) (hcs : cur.size = c) (hlc : l ≤ c) (hn : 1 ≤ n) (hlim : l + n ≤ 140737488355328) (hc2 : c ≤ 140737488355328) (h1 : ∀ v ∈ cur.toList.take l, v.oneCell' = true) :
    Calls Try.prog 95 #[.slice (some ⟨g, 0, none⟩) l c, .int .i64 n] w fun e w' => ∃ cap2 cells, e = .returned (.slice (some ⟨w.heap.size, 0, none⟩) l cap2) ∧ w'.heap[w.heap.size]? = some (.cells cells 5 (0, 0)) ∧
      cells.size = cap2 ∧ cells.toList.take l = cur.toList.take l ∧ l + n ≤ cap2 ∧ cap2 ≤ maxLen ∧ Below w.heap.size w w' := Any.bytes_growSlice_row Try.laysM290 g l c n cur w hg hcs hlc hn hlim hc2 h1
open Go.RowKit in
/-- .. OF THE NIL SLICE: a new row with room for n. (LAID: no walk: one application.) -/
theorem Try.bytes_growSlice_nil (n : Nat) (w : World) (hn : 1 ≤ n) (hlim : n ≤ 140737488355328) :
    Calls Try.prog 95 #[.slice none 0 0, .int .i64 n] w fun e w' => ∃ cap2 cells, e = .returned (.slice (some ⟨w.heap.size, 0, none⟩) 0 cap2) ∧ w'.heap[w.heap.size]? = some (.cells cells 5 (0, 0)) ∧
      cells.size = cap2 ∧ n ≤ cap2 ∧ cap2 ≤ maxLen ∧ Below w.heap.size w w' := Any.bytes_growSlice_nil Try.laysM290 n w hn hlim
def Try.laysM183_ren : Go.Shelf.Ren := ⟨fun | 183 => 38 | n => n, fun | 130 => 75 | 37 => 22 | 0 => 0 | 93 => 74 | 3 => 3 | 5 => 5 | 91 => 72 | n => n, fun | n => n⟩
theorem Try.laysM183 : Go.Proofs.LaysM.n183 Try.prog Try.laysM183_ren := {
  mixed := by kernel_rfl
  f183 := Try.func38.trans (congrArg some (by kernel_rfl))
  t0 := Try.underlying0
  a0 := Try.isAgg0
  z0 := Try.sizeOf0
  v0 := Try.zeroValue0
  t3 := Try.underlying3
  a3 := Try.isAgg3
  z3 := Try.sizeOf3
  v3 := Try.zeroValue3
  t37 := Try.underlying22
  a37 := Try.isAgg22
  z37 := Try.sizeOf22
  v37 := Try.zeroValue22
  t93 := Try.underlying74
  a93 := Try.isAgg74
  z93 := Try.sizeOf74
  v93 := Try.zeroValue74
  t130 := Try.underlying75
  a130 := Try.isAgg75
  z130 := Try.sizeOf75
  v130 := Try.zeroValue75
  t5 := Try.underlying5
  a5 := Try.isAgg5
  z5 := Try.sizeOf5
  v5 := Try.zeroValue5
  t91 := Try.underlying72
  a91 := Try.isAgg72
  z91 := Try.sizeOf72
  v91 := Try.zeroValue72
  i0 := by kernel_rfl
  i3 := by kernel_rfl
  i5 := by kernel_rfl
  i37 := by kernel_rfl
  i91 := by kernel_rfl
  i93 := by kernel_rfl
  i130 := by kernel_rfl }
open Go.RowKit in
/-- (*bytes.Buffer).Bytes: "Bytes returns a slice of length b.Len() holding the unread portion of the buffer. .. The slice aliases the buffer content at least until the next buffer modification": A SLICE THAT OWNS THE CELLS bs ('World.ownsRow': nil where nothing was ever written). The world is as it was but for the count of draws. (LAID: no walk: one application.) -/
theorem Try.Buffer_Bytes (B b : Nat) (bs : List Value) (w : World) (h : Lib.IsBuffer 74 5 B b bs w) :
    Calls Try.prog 38 #[.pointer (some ⟨b, 0, none⟩)] w fun e w' => ∃ v, e = .returned v ∧ w'.ownsRow B 5 1 v bs.length bs ∧ ∃ n, w' = w.drewN n := Any.Buffer_Bytes Try.laysM183 B b bs w h
def Try.lays190_ren : Go.Shelf.Ren := ⟨fun | 190 => 43 | 125 => 51 | 258 => 50 | 128 => 63 | 129 => 64 | 302 => 54 | 303 => 55 | 304 => 56 | 305 => 57 | 306 => 58 | 307 => 59 | 308 => 60 | 309 => 61 | 310 => 62 | 333 => 65 | 329 => 66 | 330 => 67 | 334 => 68 | 335 => 69 | 336 => 70 | 344 => 71 | n => n, fun | 31 => 92 | 9 => 9 | 3 => 3 | 46 => 86 | 0 => 0 | 51 => 136 | 53 => 138 | 4 => 4 | 183 => 129 | 182 => 128 | 131 => 133 | 5 => 5 | 218 => 142 | 222 => 146 | 228 => 148 | 229 => 149 | n => n, fun | n => n⟩
theorem Try.lays190 : Go.Proofs.Lays.n190 Try.prog Try.lays190_ren := {
  mixed := by kernel_rfl
  f125 := Try.func51.trans (congrArg some (by kernel_rfl))
  f128 := Try.func63.trans (congrArg some (by kernel_rfl))
  f129 := Try.func64.trans (congrArg some (by kernel_rfl))
  f190 := Try.func43.trans (congrArg some (by kernel_rfl))
  f258 := Try.func50.trans (congrArg some (by kernel_rfl))
  f302 := Try.func54.trans (congrArg some (by kernel_rfl))
  f303 := Try.func55.trans (congrArg some (by kernel_rfl))
  f304 := Try.func56.trans (congrArg some (by kernel_rfl))
  f305 := Try.func57.trans (congrArg some (by kernel_rfl))
  f306 := Try.func58.trans (congrArg some (by kernel_rfl))
  f307 := Try.func59.trans (congrArg some (by kernel_rfl))
  f308 := Try.func60.trans (congrArg some (by kernel_rfl))
  f309 := Try.func61.trans (congrArg some (by kernel_rfl))
  f310 := Try.func62.trans (congrArg some (by kernel_rfl))
  f329 := Try.func66.trans (congrArg some (by kernel_rfl))
  f330 := Try.func67.trans (congrArg some (by kernel_rfl))
  f333 := Try.func65.trans (congrArg some (by kernel_rfl))
  f334 := Try.func68.trans (congrArg some (by kernel_rfl))
  f335 := Try.func69.trans (congrArg some (by kernel_rfl))
  f336 := Try.func70.trans (congrArg some (by kernel_rfl))
  f344 := Try.func71.trans (congrArg some (by kernel_rfl))
  t0 := Try.underlying0
  a0 := Try.isAgg0
  z0 := Try.sizeOf0
  v0 := Try.zeroValue0
  t3 := Try.underlying3
  a3 := Try.isAgg3
  z3 := Try.sizeOf3
  v3 := Try.zeroValue3
  t4 := Try.underlying4
  a4 := Try.isAgg4
  z4 := Try.sizeOf4
  v4 := Try.zeroValue4
  t5 := Try.underlying5
  a5 := Try.isAgg5
  z5 := Try.sizeOf5
  v5 := Try.zeroValue5
  t9 := Try.underlying9
  a9 := Try.isAgg9
  z9 := Try.sizeOf9
  v9 := Try.zeroValue9
  t31 := Try.underlying92
  a31 := Try.isAgg92
  z31 := Try.sizeOf92
  v31 := Try.zeroValue92
  t46 := Try.underlying86
  a46 := Try.isAgg86
  z46 := Try.sizeOf86
  v46 := Try.zeroValue86
  t51 := Try.underlying136
  a51 := Try.isAgg136
  z51 := Try.sizeOf136
  v51 := Try.zeroValue136
  t53 := Try.underlying138
  a53 := Try.isAgg138
  z53 := Try.sizeOf138
  v53 := Try.zeroValue138
  t131 := Try.underlying133
  a131 := Try.isAgg133
  z131 := Try.sizeOf133
  v131 := Try.zeroValue133
  t182 := Try.underlying128
  a182 := Try.isAgg128
  z182 := Try.sizeOf128
  v182 := Try.zeroValue128
  t183 := Try.underlying129
  a183 := Try.isAgg129
  z183 := Try.sizeOf129
  v183 := Try.zeroValue129
  t218 := Try.underlying142
  a218 := Try.isAgg142
  z218 := Try.sizeOf142
  v218 := Try.zeroValue142
  t222 := Try.underlying146
  a222 := Try.isAgg146
  z222 := Try.sizeOf146
  v222 := Try.zeroValue146
  t228 := Try.underlying148
  a228 := Try.isAgg148
  z228 := Try.sizeOf148
  v228 := Try.zeroValue148
  t229 := Try.underlying149
  a229 := Try.isAgg149
  z229 := Try.sizeOf149
  v229 := Try.zeroValue149 }
open Go.Sort Go.RowKit in
theorem Try.slices_Sort_string (blk off cap : Nat) (ss : List (List UInt8)) (w : World) (hH : Holds encStr w blk off ss.toArray) (hblk : blk < w.heap.size) (hsz : ss.length < 4611686018427387904) :
    Calls Try.prog 43 #[.slice (some ⟨blk, off, none⟩) ss.length cap] w fun e w' =>
      e = .returned (.tuple #[]) ∧ ∃ n os, w' = grow (putRow encStr (Sort.ahead w n) blk off (ss.mergeSort fun x y => decide (x ≤ y)).toArray) os := Any.slices_Sort_string Try.lays190 blk off cap ss w hH hblk hsz
def Try.laysM252_ren : Go.Shelf.Ren := ⟨fun | 252 => 93 | 181 => 94 | 184 => 89 | 251 => 92 | 290 => 95 | 324 => 96 | n => n, fun | 130 => 75 | 3 => 3 | 4 => 4 | 0 => 0 | 93 => 74 | 131 => 133 | 37 => 22 | 75 => 66 | 91 => 72 | 20 => 20 | 5 => 5 | 80 => 151 | 9 => 9 | n => n, fun | 14 => 0 | n => n⟩
theorem Try.laysM252 : Go.Proofs.LaysM.n252 Try.prog Try.laysM252_ren := {
  mixed := by kernel_rfl
  f181 := Try.func94.trans (congrArg some (by kernel_rfl))
  f184 := Try.func89.trans (congrArg some (by kernel_rfl))
  f251 := Try.func92.trans (congrArg some (by kernel_rfl))
  f252 := Try.func93.trans (congrArg some (by kernel_rfl))
  f290 := Try.func95.trans (congrArg some (by kernel_rfl))
  f324 := Try.func96.trans (congrArg some (by kernel_rfl))
  t0 := Try.underlying0
  a0 := Try.isAgg0
  z0 := Try.sizeOf0
  v0 := Try.zeroValue0
  t3 := Try.underlying3
  a3 := Try.isAgg3
  z3 := Try.sizeOf3
  v3 := Try.zeroValue3
  t4 := Try.underlying4
  a4 := Try.isAgg4
  z4 := Try.sizeOf4
  v4 := Try.zeroValue4
  t20 := Try.underlying20
  a20 := Try.isAgg20
  z20 := Try.sizeOf20
  v20 := Try.zeroValue20
  t37 := Try.underlying22
  a37 := Try.isAgg22
  z37 := Try.sizeOf22
  v37 := Try.zeroValue22
  t75 := Try.underlying66
  a75 := Try.isAgg66
  z75 := Try.sizeOf66
  v75 := Try.zeroValue66
  t91 := Try.underlying72
  a91 := Try.isAgg72
  z91 := Try.sizeOf72
  v91 := Try.zeroValue72
  t93 := Try.underlying74
  a93 := Try.isAgg74
  z93 := Try.sizeOf74
  v93 := Try.zeroValue74
  t130 := Try.underlying75
  a130 := Try.isAgg75
  z130 := Try.sizeOf75
  v130 := Try.zeroValue75
  t131 := Try.underlying133
  a131 := Try.isAgg133
  z131 := Try.sizeOf133
  v131 := Try.zeroValue133
  g14 := by kernel_rfl
  t5 := Try.underlying5
  a5 := Try.isAgg5
  z5 := Try.sizeOf5
  v5 := Try.zeroValue5
  t9 := Try.underlying9
  a9 := Try.isAgg9
  z9 := Try.sizeOf9
  v9 := Try.zeroValue9
  t80 := Try.underlying151
  a80 := Try.isAgg151
  z80 := Try.sizeOf151
  v80 := Try.zeroValue151
  i0 := by kernel_rfl
  i3 := by kernel_rfl
  i4 := by kernel_rfl
  i5 := by kernel_rfl
  i9 := by kernel_rfl
  i20 := by kernel_rfl
  i37 := by kernel_rfl
  i75 := by kernel_rfl
  i80 := by kernel_rfl
  i91 := by kernel_rfl
  i93 := by kernel_rfl
  i130 := by kernel_rfl
  i131 := by kernel_rfl
  m14 := by kernel_rfl }
open Go.RowKit in
/-- grow, WHERE THE BUFFER HOLDS A ROW, NO BYTE IN IT (behind a Reset), AND THE ROW HAS NO ROOM: growSlice. (THE TEXT OF 'Buffer_grow_row' WITH 0 FOR l, BY PROGRAM: the walk parts on 'm == 0' and writes 0 for l throughout the goal: facts that still say l then do not strike: so l is laid in ahead of the walk.) (LAID: no walk: one application.) -/
theorem Try.Buffer_grow_row0_own (B b g cap n : Nat) (lr : Int) (cur : Array Value) (bs : List Value) (w : World) (hB : B ≤ b) (hBw : B ≤ w.heap.size) (hbk : w.heap[b]? = some (.cells #[.slice (some ⟨g, 0, none⟩) 0 cap, .int .i64 0, .int .i8 lr] 74 (0, 0))) (hl : bs.length = 0) (hBg : B ≤ g) (hg : w.heap[g]? = some (.cells cur 5 (0, 0))) (hlc : 0 ≤ cap) (hcm : cap ≤ maxLen) (hcs : cur.size = cap) (htake : cur.toList.take 0 = bs) (hgb : g ≠ b) (h1 : ∀ v ∈ bs, v.oneCell' = true) (hn : 1 ≤ n) (hroom : cap - 0 < n) (hlim : 0 + n ≤ 140737488355328) :
    Calls Try.prog 93 #[.pointer (some ⟨b, 0, none⟩), .int .i64 n] w fun e w' => e = .returned (.int .i64 0) ∧ ∃ xs, xs.length = n ∧ Lib.IsBuffer 74 5 B b (bs ++ xs) w' ∧ Below B w w' ∧ Lib.OthersKept 5 (some b) w w' ∧ w.grownBy w' (some b) := Any.Buffer_grow_row0_own Try.laysM252 B b g cap n lr cur bs w hB hBw hbk hl hBg hg hlc hcm hcs htake hgb h1 hn hroom hlim
open Go.RowKit in
/-- grow, WHERE THE BUFFER HOLDS A ROW THAT HAS NO ROOM: growSlice. (LAID: no walk: one application.) -/
theorem Try.Buffer_grow_row_own (B b g l cap n : Nat) (lr : Int) (cur : Array Value) (bs : List Value) (w : World) (hB : B ≤ b) (hBw : B ≤ w.heap.size) (hbk : w.heap[b]? = some (.cells #[.slice (some ⟨g, 0, none⟩) l cap, .int .i64 0, .int .i8 lr] 74 (0, 0))) (hl : bs.length = l) (hBg : B ≤ g) (hg : w.heap[g]? = some (.cells cur 5 (0, 0))) (hlc : l ≤ cap) (hcm : cap ≤ maxLen) (hcs : cur.size = cap) (htake : cur.toList.take l = bs) (hgb : g ≠ b) (h1 : ∀ v ∈ bs, v.oneCell' = true) (hn : 1 ≤ n) (hroom : cap - l < n) (hlim : l + n ≤ 140737488355328) :
    Calls Try.prog 93 #[.pointer (some ⟨b, 0, none⟩), .int .i64 n] w fun e w' => e = .returned (.int .i64 l) ∧ ∃ xs, xs.length = n ∧ Lib.IsBuffer 74 5 B b (bs ++ xs) w' ∧ Below B w w' ∧ Lib.OthersKept 5 (some b) w w' ∧ w.grownBy w' (some b) := Any.Buffer_grow_row_own Try.laysM252 B b g l cap n lr cur bs w hB hBw hbk hl hBg hg hlc hcm hcs htake hgb h1 hn hroom hlim
open Go.RowKit in
/-- grow, 'buf' nil, n AT MOST 64: 'b.buf = make([]byte, n, smallBufferSize)'. (LAID: no walk: one application.) -/
theorem Try.Buffer_grow_nil_small_own (B b n : Nat) (lr : Int) (w : World) (hB : B ≤ b) (hBw : B ≤ w.heap.size) (hbk : w.heap[b]? = some (.cells #[.slice none 0 0, .int .i64 0, .int .i8 lr] 74 (0, 0))) (hn : 1 ≤ n) (h64 : n ≤ 64) :
    Calls Try.prog 93 #[.pointer (some ⟨b, 0, none⟩), .int .i64 n] w fun e w' => e = .returned (.int .i64 0) ∧ ∃ xs, xs.length = n ∧ Lib.IsBuffer 74 5 B b xs w' ∧ Below B w w' ∧ Lib.OthersKept 5 (some b) w w' ∧ w.grownBy w' (some b) := Any.Buffer_grow_nil_small_own Try.laysM252 B b n lr w hB hBw hbk hn h64
open Go.RowKit in
/-- grow, 'buf' nil, n ABOVE 64: growSlice of the nil slice. (LAID: no walk: one application.) -/
theorem Try.Buffer_grow_nil_big_own (B b n : Nat) (lr : Int) (w : World) (hB : B ≤ b) (hBw : B ≤ w.heap.size) (hbk : w.heap[b]? = some (.cells #[.slice none 0 0, .int .i64 0, .int .i8 lr] 74 (0, 0))) (h64 : 64 < n) (hlim : n ≤ 140737488355328) :
    Calls Try.prog 93 #[.pointer (some ⟨b, 0, none⟩), .int .i64 n] w fun e w' => e = .returned (.int .i64 0) ∧ ∃ xs, xs.length = n ∧ Lib.IsBuffer 74 5 B b xs w' ∧ Below B w w' ∧ Lib.OthersKept 5 (some b) w w' ∧ w.grownBy w' (some b) := Any.Buffer_grow_nil_big_own Try.laysM252 B b n lr w hB hBw hbk h64 hlim
open Go.RowKit in
/-- tryGrowByReslice: EITHER there is room: the place to write at is the old length, and the buffer holds the old bytes and n more of whatever lay there; OR there is none: nothing turns, and 'Lib.NoRoom' is what grow asks. (LAID: no walk: one application.) -/
theorem Try.Buffer_tryGrow_own (B b n : Nat) (bs : List Value) (w : World) (h : Lib.IsBuffer 74 5 B b bs w) :
    Calls Try.prog 92 #[.pointer (some ⟨b, 0, none⟩), .int .i64 n] w fun e w' =>
      (e = .returned (.tuple #[.int .i64 bs.length, .bool true]) ∧ ∃ xs, xs.length = n ∧ Lib.IsBuffer 74 5 B b (bs ++ xs) w' ∧ Below B w w' ∧ Lib.OthersKept 5 (some b) w w' ∧ w.grownBy w' (some b)) ∨
      (e = .returned (.tuple #[.int .i64 0, .bool false]) ∧ w' = w ∧ Lib.NoRoom b n w) := Any.Buffer_tryGrow_own Try.laysM251 B b n bs w h
open Go.RowKit in
/-- (*bytes.Buffer).grow: "grow grows the buffer to guarantee space for n more bytes. It returns the index where bytes should be written.": WHERE THERE IS NO ROOM; UNDER Go's OWN LIMIT (the new length takes at most 2^47 bytes): the old length; the buffer holds the old bytes and n more of whatever. (LAID: no walk: one application.) -/
theorem Try.Buffer_grow_own (B b n : Nat) (bs : List Value) (w : World) (h : Lib.IsBuffer 74 5 B b bs w) (hnr : Lib.NoRoom b n w) (hBw : B ≤ w.heap.size) (h1 : ∀ v ∈ bs, v.oneCell' = true) (hlim : bs.length + n ≤ 140737488355328) :
    Calls Try.prog 93 #[.pointer (some ⟨b, 0, none⟩), .int .i64 n] w fun e w' => e = .returned (.int .i64 bs.length) ∧ ∃ xs, xs.length = n ∧ Lib.IsBuffer 74 5 B b (bs ++ xs) w' ∧ Below B w w' ∧ Lib.OthersKept 5 (some b) w w' ∧ w.grownBy w' (some b) := Any.Buffer_grow_own Try.laysM252 B b n bs w h hnr hBw h1 hlim
def Try.laysM180_ren : Go.Shelf.Ren := ⟨fun | 180 => 91 | 251 => 92 | 252 => 93 | 181 => 94 | 184 => 89 | 290 => 95 | 324 => 96 | n => n, fun | 130 => 75 | 37 => 22 | 3 => 3 | 75 => 66 | 0 => 0 | 93 => 74 | 91 => 72 | 131 => 133 | 4 => 4 | 20 => 20 | 5 => 5 | 80 => 151 | 9 => 9 | n => n, fun | 14 => 0 | n => n⟩
theorem Try.laysM180 : Go.Proofs.LaysM.n180 Try.prog Try.laysM180_ren := {
  mixed := by kernel_rfl
  f180 := Try.func91.trans (congrArg some (by kernel_rfl))
  f181 := Try.func94.trans (congrArg some (by kernel_rfl))
  f184 := Try.func89.trans (congrArg some (by kernel_rfl))
  f251 := Try.func92.trans (congrArg some (by kernel_rfl))
  f252 := Try.func93.trans (congrArg some (by kernel_rfl))
  f290 := Try.func95.trans (congrArg some (by kernel_rfl))
  f324 := Try.func96.trans (congrArg some (by kernel_rfl))
  t0 := Try.underlying0
  a0 := Try.isAgg0
  z0 := Try.sizeOf0
  v0 := Try.zeroValue0
  t3 := Try.underlying3
  a3 := Try.isAgg3
  z3 := Try.sizeOf3
  v3 := Try.zeroValue3
  t4 := Try.underlying4
  a4 := Try.isAgg4
  z4 := Try.sizeOf4
  v4 := Try.zeroValue4
  t20 := Try.underlying20
  a20 := Try.isAgg20
  z20 := Try.sizeOf20
  v20 := Try.zeroValue20
  t37 := Try.underlying22
  a37 := Try.isAgg22
  z37 := Try.sizeOf22
  v37 := Try.zeroValue22
  t75 := Try.underlying66
  a75 := Try.isAgg66
  z75 := Try.sizeOf66
  v75 := Try.zeroValue66
  t91 := Try.underlying72
  a91 := Try.isAgg72
  z91 := Try.sizeOf72
  v91 := Try.zeroValue72
  t93 := Try.underlying74
  a93 := Try.isAgg74
  z93 := Try.sizeOf74
  v93 := Try.zeroValue74
  t130 := Try.underlying75
  a130 := Try.isAgg75
  z130 := Try.sizeOf75
  v130 := Try.zeroValue75
  t131 := Try.underlying133
  a131 := Try.isAgg133
  z131 := Try.sizeOf133
  v131 := Try.zeroValue133
  g14 := by kernel_rfl
  t5 := Try.underlying5
  a5 := Try.isAgg5
  z5 := Try.sizeOf5
  v5 := Try.zeroValue5
  t9 := Try.underlying9
  a9 := Try.isAgg9
  z9 := Try.sizeOf9
  v9 := Try.zeroValue9
  t80 := Try.underlying151
  a80 := Try.isAgg151
  z80 := Try.sizeOf151
  v80 := Try.zeroValue151
  i0 := by kernel_rfl
  i3 := by kernel_rfl
  i4 := by kernel_rfl
  i5 := by kernel_rfl
  i9 := by kernel_rfl
  i20 := by kernel_rfl
  i37 := by kernel_rfl
  i75 := by kernel_rfl
  i80 := by kernel_rfl
  i91 := by kernel_rfl
  i93 := by kernel_rfl
  i130 := by kernel_rfl
  i131 := by kernel_rfl
  m14 := by kernel_rfl }
open Go.RowKit in
/-- (*bytes.Buffer).Write: "Write appends the contents of p to the buffer, growing the buffer as needed. The return value n is the length of p; err is always nil." (LAID: no walk: one application.) -/
theorem Try.Buffer_Write_any (B b : Nat) (bs cs : List Value) (a : Addr) (n c : Nat) (w : World) (h : Lib.IsBuffer 74 5 B b bs w) (hBw : B ≤ w.heap.size) (h1 : ∀ v ∈ bs, v.oneCell' = true) (hn : cs.length = n) (hab : a.block ≠ b) (hsrc : ∀ j v, cs[j]? = some v → w.cell? (a.add j) = some v) (h1c : ∀ v ∈ cs, v.oneCell' = true) (hlim : bs.length + n ≤ 140737488355328) :
    Calls Try.prog 91 #[.pointer (some ⟨b, 0, none⟩), .slice (some a) n c] w fun e w' => e = .returned (.tuple #[.int .i64 n, .nilIface]) ∧ Lib.IsBuffer 74 5 B b (bs ++ cs) w' ∧ Below B w w' ∧ Lib.OthersKept 5 (some b) w w' := Any.Buffer_Write_any Try.laysM180 B b bs cs a n c w h hBw h1 hn hab hsrc h1c hlim
open Go.RowKit Go.Sort in
/-- .. and plain. (LAID: no walk: one application.) -/
theorem Try.slices_Sort_string_none (p : Option Addr) (cap : Nat) (w : World) :
    Calls Try.prog 43 #[.slice p 0 cap] w fun e w' => e = .returned (.tuple #[]) ∧ w' = w := Any.slices_Sort_string_none Try.lays190 p cap w
end Go.Proofs
