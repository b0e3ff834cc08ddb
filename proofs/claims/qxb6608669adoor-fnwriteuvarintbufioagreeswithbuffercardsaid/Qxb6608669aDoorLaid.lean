/-
  Seat b6608669aD: the shelf's contracts (bytes.Buffer, binary.LittleEndian), laid at this dump. By an AI agent.
-/
import Derived.Test.Qxb6608669aDoorRows
import Derived.Shelf.Bytes.WriteAny
import Derived.Shelf.Bytes.WriteByteKept
import Derived.Shelf.Bytes.Bytes
import Derived.Shelf.Bin.LEPutUint16
import Derived.Shelf.Bin.LEPutUint32
import Derived.Shelf.Bin.LEPutUint64
import Derived.Shelf.Bin.LEAppendUint16
import Derived.Shelf.Bin.LEAppendUint16Arg
import Derived.Shelf.Lay
import Derived.Ground.NamesProg
import Derived.Ground.MnProg
import Derived.WalkKit
namespace Go.Proofs.Qxb6608669aDoor
open Go.Shelf Go.RowKit

shelf_lay LaysM.n180 Nm 180 at Tryd as Tryd.laysM180
theorem buf_write (B b : Nat) (bs cs : List Value) (a : Addr) (n c : Nat) (w : World) (h : Lib.IsBuffer 49 5 B b bs w) (hBw : B ≤ w.heap.size) (h1 : ∀ v ∈ bs, v.oneCell' = true)
    (hn : cs.length = n) (hab : a.block ≠ b) (hsrc : ∀ j v, cs[j]? = some v → w.cell? (a.add j) = some v) (h1c : ∀ v ∈ cs, v.oneCell' = true) (hlim : bs.length + n ≤ 140737488355328) :
    Calls Tryd.prog 39 #[.pointer (some ⟨b, 0, none⟩), .slice (some a) n c] w fun e w' => e = .returned (.tuple #[.int .i64 n, .nilIface]) ∧ Lib.IsBuffer 49 5 B b (bs ++ cs) w' ∧ Below B w w' ∧ Lib.OthersKept 5 (some b) w w' :=
  Any.Buffer_Write_any Tryd.laysM180 B b bs cs a n c w h hBw h1 hn hab hsrc h1c hlim
shelf_lay LaysM.n179 Nm 179 at Tryd as Tryd.laysM179
theorem buf_byte (B b : Nat) (bs : List Value) (c : Int) (w : World) (h : Lib.IsBuffer 49 5 B b bs w) (hBw : B ≤ w.heap.size) (h1 : ∀ v ∈ bs, v.oneCell' = true) (hlim : bs.length + 1 ≤ 140737488355328) :
    Calls Tryd.prog 38 #[.pointer (some ⟨b, 0, none⟩), .int .u8 c] w fun e w' => e = .returned .nilIface ∧ Lib.IsBuffer 49 5 B b (bs ++ [.int .u8 c]) w' ∧ Below B w w' ∧ Lib.OthersKept 5 (some b) w w' :=
  Any.Buffer_WriteByte_kept Tryd.laysM179 B b bs c w h hBw h1 hlim
shelf_lay LaysM.n183 Nm 183 at Tryd as Tryd.laysM183
theorem buf_bytes (B b : Nat) (bs : List Value) (w : World) (h : Lib.IsBuffer 49 5 B b bs w) :
    Calls Tryd.prog 25 #[.pointer (some ⟨b, 0, none⟩)] w fun e w' => ∃ v, e = .returned v ∧ w'.ownsRow B 5 1 v bs.length bs ∧ ∃ n, w' = w.drewN n := Any.Buffer_Bytes Tryd.laysM183 B b bs w h
shelf_lay LaysBin.n28 Mn 28 at Tryd as Tryd.laysB28
theorem put16 (g o n c v : Nat) (hv : v < 65536) (x0 x1 : Value) (w : World) (hn : 2 ≤ n)
    (c0 : w.cell? ⟨g, o, none⟩ = some x0) (c1 : w.cell? ⟨g, o + 1, none⟩ = some x1)
    (f0 : w.frozen? ⟨g, o, none⟩ = false) (f1 : w.frozen? ⟨g, o + 1, none⟩ = false) :
    Calls Tryd.prog 53 #[.agg #[], .slice (some ⟨g, o, none⟩) n c, .int .u16 v] w fun e w' => e = .returned (.tuple #[]) ∧ w' = (w.alloc (.cells #[] 71)).setCells g o (Lib.byteCells (Lib.leBytes 2 v)) :=
  Any.binary_LE_PutUint16 Tryd.laysB28 g o n c v hv x0 x1 w hn c0 c1 f0 f1
shelf_lay LaysBin.n31 Mn 31 at Tryd as Tryd.laysB31
theorem put32 (g o n c v : Nat) (hv : v < 4294967296) (x0 x1 x2 x3 : Value) (w : World) (hn : 4 ≤ n)
    (c0 : w.cell? ⟨g, o, none⟩ = some x0) (c1 : w.cell? ⟨g, o + 1, none⟩ = some x1) (c2 : w.cell? ⟨g, o + 2, none⟩ = some x2) (c3 : w.cell? ⟨g, o + 3, none⟩ = some x3)
    (f0 : w.frozen? ⟨g, o, none⟩ = false) (f1 : w.frozen? ⟨g, o + 1, none⟩ = false) (f2 : w.frozen? ⟨g, o + 2, none⟩ = false) (f3 : w.frozen? ⟨g, o + 3, none⟩ = false) :
    Calls Tryd.prog 56 #[.agg #[], .slice (some ⟨g, o, none⟩) n c, .int .u32 v] w fun e w' => e = .returned (.tuple #[]) ∧ w' = (w.alloc (.cells #[] 71)).setCells g o (Lib.byteCells (Lib.leBytes 4 v)) :=
  Any.binary_LE_PutUint32 Tryd.laysB31 g o n c v hv x0 x1 x2 x3 w hn c0 c1 c2 c3 f0 f1 f2 f3
shelf_lay LaysBin.n34 Mn 34 at Tryd as Tryd.laysB34
theorem put64 (g o n c v : Nat) (hv : v < 18446744073709551616) (x0 x1 x2 x3 x4 x5 x6 x7 : Value) (w : World) (hn : 8 ≤ n)
    (c0 : w.cell? ⟨g, o, none⟩ = some x0) (c1 : w.cell? ⟨g, o + 1, none⟩ = some x1) (c2 : w.cell? ⟨g, o + 2, none⟩ = some x2) (c3 : w.cell? ⟨g, o + 3, none⟩ = some x3) (c4 : w.cell? ⟨g, o + 4, none⟩ = some x4) (c5 : w.cell? ⟨g, o + 5, none⟩ = some x5) (c6 : w.cell? ⟨g, o + 6, none⟩ = some x6) (c7 : w.cell? ⟨g, o + 7, none⟩ = some x7)
    (f0 : w.frozen? ⟨g, o, none⟩ = false) (f1 : w.frozen? ⟨g, o + 1, none⟩ = false) (f2 : w.frozen? ⟨g, o + 2, none⟩ = false) (f3 : w.frozen? ⟨g, o + 3, none⟩ = false) (f4 : w.frozen? ⟨g, o + 4, none⟩ = false) (f5 : w.frozen? ⟨g, o + 5, none⟩ = false) (f6 : w.frozen? ⟨g, o + 6, none⟩ = false) (f7 : w.frozen? ⟨g, o + 7, none⟩ = false) :
    Calls Tryd.prog 54 #[.agg #[], .slice (some ⟨g, o, none⟩) n c, .int .u64 v] w fun e w' => e = .returned (.tuple #[]) ∧ w' = (w.alloc (.cells #[] 71)).setCells g o (Lib.byteCells (Lib.leBytes 8 v)) :=
  Any.binary_LE_PutUint64 Tryd.laysB34 g o n c v hv x0 x1 x2 x3 x4 x5 x6 x7 w hn c0 c1 c2 c3 c4 c5 c6 c7 f0 f1 f2 f3 f4 f5 f6 f7
shelf_lay LaysBin.n29 Mn 29 at Tryd as Tryd.laysB29
theorem app16_own (B n v : Nat) (hv : v < 65536) (sv : Value) (xs : List Value) (w : World) (hown : w.ownsRow B 5 1 sv n xs) (hBw : B ≤ w.heap.size) (hlim : n + 2 ≤ 140737488355328) :
    Calls Tryd.prog 42 #[.agg #[], sv, .int .u16 v] w fun e w' => ∃ v', e = .returned v' ∧ w'.ownsRow B 5 1 v' (n + 2) (xs ++ Lib.byteCells (Lib.leBytes 2 v)) ∧ Below B w w' := Any.binary_LE_AppendUint16 Tryd.laysB29 B n v hv sv xs w hown hBw hlim
theorem app16_arg (g o n cap v : Nat) (hv : v < 65536) (olds : List Value) (w : World) (hlo : olds.length = n) (holds : ∀ j u, olds[j]? = some u → w.cell? ⟨g, o + j, none⟩ = some u)
    (hspare : n + 2 ≤ cap → ∀ j, j < 2 → (w.cell? ⟨g, o + n + j, none⟩).isSome = true ∧ w.frozen? ⟨g, o + n + j, none⟩ = false) (hlim : n + 2 ≤ 140737488355328) :
    Calls Tryd.prog 42 #[.agg #[], .slice (some ⟨g, o, none⟩) n cap, .int .u16 v] w fun e w' =>
      (n + 2 ≤ cap ∧ e = .returned (.slice (some ⟨g, o, none⟩) (n + 2) cap) ∧ w' = ((w.alloc (.cells #[] 71)).alloc (.cells (Lib.byteCells (Lib.leBytes 2 v)).toArray 5)).setCells g (o + n) (Lib.byteCells (Lib.leBytes 2 v))) ∨
      (cap < n + 2 ∧ ∃ v', e = .returned v' ∧ w'.ownsRow (w.heap.size + 2) 5 1 v' (n + 2) (olds ++ Lib.byteCells (Lib.leBytes 2 v)) ∧ Below w.heap.size w w') := Any.binary_LE_AppendUint16_arg Tryd.laysB29 g o n cap v hv olds w hlo holds hspare hlim
end Go.Proofs.Qxb6608669aDoor
