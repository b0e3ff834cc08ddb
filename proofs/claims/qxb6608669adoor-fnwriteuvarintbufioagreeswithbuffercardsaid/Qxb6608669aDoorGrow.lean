/-
  Seat b6608669aD: (*bytes.Buffer).grow and Write with a fine frame: of what was there, the buffer's own block and its own row alone turn. By an AI agent.
-/
import Derived.Test.Qxb6608669aDoorVar
import Derived.Shelf.Bytes.GrowSlice
import Derived.Shelf.Bytes.TryGrow
namespace Go.Proofs.Qxb6608669aDoor
open Go.Shelf Go.RowKit

shelf_lay LaysM.n290 Nm 290 at Tryd as Tryd.laysM290
theorem grow_slice (g l c n : Nat) (cur : Array Value) (w : World) (hg : w.heap[g]? = some (.cells cur 5 (0, 0))) (hcs : cur.size = c) (hlc : l ≤ c) (hn : 1 ≤ n)
    (hlim : l + n ≤ 140737488355328) (hc2 : c ≤ 140737488355328) (h1 : ∀ v ∈ cur.toList.take l, v.oneCell' = true) :
    Calls Tryd.prog 59 #[.slice (some ⟨g, 0, none⟩) l c, .int .i64 n] w fun e w' => ∃ cap2 cells, e = .returned (.slice (some ⟨w.heap.size, 0, none⟩) l cap2) ∧ w'.heap[w.heap.size]? = some (.cells cells 5 (0, 0)) ∧
      cells.size = cap2 ∧ cells.toList.take l = cur.toList.take l ∧ l + n ≤ cap2 ∧ cap2 ≤ maxLen ∧ Below w.heap.size w w' := Any.bytes_growSlice_row Tryd.laysM290 g l c n cur w hg hcs hlc hn hlim hc2 h1
theorem grow_slice_nil (n : Nat) (w : World) (hn : 1 ≤ n) (hlim : n ≤ 140737488355328) :
    Calls Tryd.prog 59 #[.slice none 0 0, .int .i64 n] w fun e w' => ∃ cap2 cells, e = .returned (.slice (some ⟨w.heap.size, 0, none⟩) 0 cap2) ∧ w'.heap[w.heap.size]? = some (.cells cells 5 (0, 0)) ∧
      cells.size = cap2 ∧ n ≤ cap2 ∧ cap2 ≤ maxLen ∧ Below w.heap.size w w' := Any.bytes_growSlice_nil Tryd.laysM290 n w hn hlim

theorem frozen_of_block {w : World} {b : Nat} {cs : Array Value} {T : TypeId} (h : w.heap[b]? = some (.cells cs T (0, 0))) (i : Nat) : w.frozen? ⟨b, i, none⟩ = false := by simp [World.frozen?, h]

/-- Len, off 0. -/
theorem len_any (b l cap : Nat) (ao : Option Addr) (w : World) (c0 : w.cell? ⟨b, 0, none⟩ = some (.slice ao l cap)) (c1 : w.cell? ⟨b, 1, none⟩ = some (.int .i64 0)) (hl : l ≤ 9223372036854775807) :
    Calls Tryd.prog 57 #[.pointer (some ⟨b, 0, none⟩)] w fun e w' => e = .returned (.int .i64 (l : Int)) ∧ ∃ k, w' = w.drewN k := by
  have hw : IntKind.i64.wrap (l : Int) = (l : Int) := by rw [IntKind.wrap_i64]; omega
  go_enter Tryd.func57, Tryd.ntmps57
  go_wp2
  go_quiet (fail)
  go_wp2
  go_ret
  exact ⟨by simp, _, rfl⟩

/-- tryGrowByReslice where there is no room. -/
theorem try_none (b l cap n : Nat) (ao : Option Addr) (w : World) (c0 : w.cell? ⟨b, 0, none⟩ = some (.slice ao l cap)) (hl : l ≤ cap) (hc : cap ≤ 9223372036854775807) (hn : cap - l < n) :
    Calls Tryd.prog 49 #[.pointer (some ⟨b, 0, none⟩), .int .i64 (n : Int)] w fun e w' => e = .returned (.tuple #[.int .i64 0, .bool false]) ∧ w' = w := by
  have h1 : (cap : Int) - (l : Int) < (n : Int) := by omega
  have h2 : (l : Int) ≤ (cap : Int) := by omega
  go_enter Tryd.func49, Tryd.ntmps49
  go_wp2
  go_ret2
  exact ⟨rfl, rfl⟩

/-- .. where there is. -/
theorem try_room (b g l cap n : Nat) (w : World) (c0 : w.cell? ⟨b, 0, none⟩ = some (.slice (some ⟨g, 0, none⟩) l cap)) (f0 : w.frozen? ⟨b, 0, none⟩ = false) (hc : cap ≤ 9223372036854775807) (hn : l + n ≤ cap) :
    Calls Tryd.prog 49 #[.pointer (some ⟨b, 0, none⟩), .int .i64 (n : Int)] w fun e w' => e = .returned (.tuple #[.int .i64 (l : Int), .bool true]) ∧ w' = w.setCell ⟨b, 0, none⟩ (.slice (some ⟨g, 0, none⟩) (l + n) cap) := by
  have h1 : (n : Int) ≤ (cap : Int) - (l : Int) := by omega
  have h2 : (l : Int) ≤ (cap : Int) := by omega
  have h3 : (l : Int) + (n : Int) ≤ (cap : Int) := by omega
  go_enter Tryd.func49, Tryd.ntmps49
  go_wp2
  go_ret2
  exact ⟨rfl, by simp⟩

/-- What grow leaves: a new row. -/
def Grown (b l n : Nat) (old : List Value) (w W : World) : Prop :=
  ∃ g' cur' lr', w.heap.size ≤ g' ∧ W.heap[b]? = some (.cells #[.slice (some ⟨g', 0, none⟩) (l + n) cur'.length, .int .i64 0, .int .i8 lr'] 49 (0, 0)) ∧ Row W g' cur' ∧ l + n ≤ cur'.length ∧ cur'.length ≤ maxLen ∧ cur'.take l = old ∧ w.grownBy W (some b)

theorem grow_end {w w1 w2 : World} {b l n k cap2 : Nat} {lr : Int} {v X : Value} {cells : Array Value} {old : List Value} (hw1 : w1 = w.drewN k) (hb : w1.heap[b]? = some (.cells #[v, .int .i64 0, .int .i8 lr] 49 (0, 0)))
    (q1 : w2.heap[w1.heap.size]? = some (.cells cells 5 (0, 0))) (q2 : cells.size = cap2) (q3 : cells.toList.take l = old) (q4 : l + n ≤ cap2) (q5 : cap2 ≤ maxLen) (q6 : Below w1.heap.size w1.drew w2) :
    Grown b l n old w (((w2.setCell ⟨b, 0, none⟩ X).setCell ⟨b, 1, none⟩ (.int .i64 0)).setCell ⟨b, 0, none⟩ (.slice (some ⟨w1.heap.size, 0, none⟩) (l + n) cap2)) := by
  have hbl := Lib.lt_of_heap hb
  have hb2 : w2.heap[b]? = some (.cells #[v, .int .i64 0, .int .i8 lr] 49 (0, 0)) := (q6.block b hbl).trans hb
  have s1 := Lib.heap_setCell_same (i := 0) hb2 X
  have s2 := Lib.heap_setCell_same (i := 1) s1 (.int .i64 0)
  have s3 := Lib.heap_setCell_same (i := 0) s2 (.slice (some ⟨w1.heap.size, 0, none⟩) (l + n) cap2)
  have hl : cells.toList.length = cap2 := by simpa using q2
  have hsz : w1.heap.size = w.heap.size := by rw [hw1]; rfl
  refine ⟨w1.heap.size, cells.toList, lr, by omega, ?_, ?_, by omega, by omega, q3, ?_⟩
  · rw [s3, hl]; rfl
  · unfold Row
    rw [Below.heap_setCell _ _ _ _ (by show w1.heap.size ≠ b; omega), Below.heap_setCell _ _ _ _ (by show w1.heap.size ≠ b; omega), Below.heap_setCell _ _ _ _ (by show w1.heap.size ≠ b; omega), q1]
  · have g0 : w.grownBy w2 (some b) := by
      have h6 := q6
      refine ⟨by rw [h6.os, World.drew, hw1]; rfl, by rw [h6.tape, World.drew, hw1]; rfl, by rw [h6.output, World.drew, hw1]; rfl, by have := h6.size; rw [hw1] at this; exact this, fun i hi _ => ?_⟩
      rw [h6.block i (by omega), World.drew, hw1]; rfl
    exact Lib.grownBy_setB (Lib.grownBy_setB (Lib.grownBy_setB g0 0 _) 1 _) 0 _

set_option maxRecDepth 100000 in
set_option maxHeartbeats 4000000 in
theorem grow_row_pos (b g l n : Nat) (lr : Int) (cur : List Value) (w : World) (hb : w.heap[b]? = some (.cells #[.slice (some ⟨g, 0, none⟩) l cur.length, .int .i64 0, .int .i8 lr] 49 (0, 0))) (hr : Row w g cur) (hl : l ≤ cur.length)
    (hn : 1 ≤ n) (hno : cur.length - l < n) (hlim : l + n ≤ 140737488355328) (h1 : ∀ v ∈ cur.take l, v.oneCell' = true) (hl0 : ¬ l = 0) :
    Calls Tryd.prog 50 #[.pointer (some ⟨b, 0, none⟩), .int .i64 (n : Int)] w fun e w' => e = .returned (.int .i64 (l : Int)) ∧ Grown b l n (cur.take l) w w' := by
  obtain ⟨cap, hcap⟩ : ∃ cap, cap = cur.length := ⟨_, rfl⟩
  rw [← hcap] at hb hl hno
  have hnil := fun (W : World) (a : Option Addr) (n c : Nat) => Lib.run_eql_slice_nil (P := Tryd.prog) W 22 5 a n c 0 0 Tryd.underlying22
  have c0 : w.cell? ⟨b, 0, none⟩ = some (.slice (some ⟨g, 0, none⟩) l cap) := by rw [cell_of_block hb]; rfl
  have c1 : w.cell? ⟨b, 1, none⟩ = some (.int .i64 0) := by rw [cell_of_block hb]; rfl
  have HC := hid hcap
  have HR := hid hr
  have HB := hid hb
  have H1 := hid h1
  clear hb hr h1 hcap
  have d1 : decide ((n : Int) ≤ (cap : Int) / 2 - (l : Int)) = false := decide_eq_false (by omega)
  have d2 : decide (9223372036854775807 - (cap : Int) - (n : Int) < (cap : Int)) = false := decide_eq_false (by omega)
  have hwn : IntKind.i64.wrap (n : Int) = (n : Int) := by rw [IntKind.wrap_i64]; omega
  have hl0' : ((l : Int) == 0) = false := by simp; omega
  go_enter Tryd.func50, Tryd.ntmps50
  go_wp2_with fail
  refine (len_any b l cap _ w c0 c1 (by omega)).mono ?_
  rintro e w1 ⟨rfl, k1, hw1⟩
  have HW1 := hid hw1
  have c0' : w1.cell? ⟨b, 0, none⟩ = some (.slice (some ⟨g, 0, none⟩) l cap) := by rw [hw1]; exact c0
  have c1' : w1.cell? ⟨b, 1, none⟩ = some (.int .i64 0) := by rw [hw1]; exact c1
  clear hw1 c0 c1
  go_wp2_with fail
  refine (try_none b l cap n _ w1 c0' hl (by omega) hno).mono ?_
  rintro e w2 ⟨rfl, hw2⟩
  rw [hw2]; clear hw2 w2
  go_wp2_with fail
  have hb1 : w1.heap[b]? = some (.cells #[.slice (some ⟨g, 0, none⟩) l cap, .int .i64 0, .int .i8 lr] 49 (0, 0)) := by rw [HW1.out]; exact HB.out
  have hr1 : w1.drew.heap[g]? = some (.cells cur.toArray 5 (0, 0)) := by show w1.heap[g]? = _; rw [HW1.out]; exact HR.out
  have hbl := Lib.lt_of_heap hb1
  have HB1 := hid hb1
  have HG := hid (grow_slice g l cap n cur.toArray w1.drew hr1 (by rw [HC.out]; simp) hl hn hlim (by omega) (by simpa using H1.out))
  clear hb1 hr1
  go_region_with (go_at_call 59; refine HG.out.mono ?_; rintro e w2 ⟨cap2, cells, rfl, q1, q2, q3, q4, q5, q6⟩; have hb2 := q6.block b hbl; have c02 : w2.cell? ⟨b, 0, none⟩ = some (.slice (some ⟨g, 0, none⟩) l cap) := (World.cell?_of_block (a := ⟨b, 0, none⟩) hb2).trans c0'; have c12 : w2.cell? ⟨b, 1, none⟩ = some (.int .i64 0) := (World.cell?_of_block (a := ⟨b, 1, none⟩) hb2).trans c1'; have f02 : w2.frozen? ⟨b, 0, none⟩ = false := (World.frozen?_of_block (a := ⟨b, 0, none⟩) hb2).trans (frozen_of_block HB1.out 0); have f12 : w2.frozen? ⟨b, 1, none⟩ = false := (World.frozen?_of_block (a := ⟨b, 1, none⟩) hb2).trans (frozen_of_block HB1.out 1); clear hb2)
  all_goals
    have q4i : (l : Int) + (n : Int) ≤ (cap2 : Int) := by omega
    have Q1 := hid q1
    have Q2 := hid q2
    have Q3 := hid q3
    have Q5 := hid q5
    have Q6 := hid q6
    clear q1 q2 q3 q5 q6 HG
    go_wp2
    go_ret
    exact ⟨rfl, grow_end HW1.out HB1.out Q1.out Q2.out (by simpa using Q3.out) q4 Q5.out Q6.out⟩
end Go.Proofs.Qxb6608669aDoor
