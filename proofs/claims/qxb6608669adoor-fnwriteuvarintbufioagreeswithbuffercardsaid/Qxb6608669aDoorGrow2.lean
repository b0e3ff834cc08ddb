/-
  Seat b6608669aD: grow at an empty row, at nil; Write. By an AI agent.
-/
import Derived.Test.Qxb6608669aDoorGrow
namespace Go.Proofs.Qxb6608669aDoor
open Go.RowKit

set_option maxRecDepth 100000 in
set_option maxHeartbeats 4000000 in
theorem grow_row_zero (b g n : Nat) (lr : Int) (cur : List Value) (w : World) (hb : w.heap[b]? = some (.cells #[.slice (some ⟨g, 0, none⟩) 0 cur.length, .int .i64 0, .int .i8 lr] 49 (0, 0))) (hr : Row w g cur)
    (hn : 1 ≤ n) (hno : cur.length < n) (hlim : n ≤ 140737488355328) :
    Calls Tryd.prog 50 #[.pointer (some ⟨b, 0, none⟩), .int .i64 (n : Int)] w fun e w' => e = .returned (.int .i64 0) ∧ Grown b 0 n [] w w' := by
  obtain ⟨cap, hcap⟩ : ∃ cap, cap = cur.length := ⟨_, rfl⟩
  rw [← hcap] at hb hno
  have hnil := fun (W : World) (a : Option Addr) (n c : Nat) => Lib.run_eql_slice_nil (P := Tryd.prog) W 22 5 a n c 0 0 Tryd.underlying22
  have c0 : w.cell? ⟨b, 0, none⟩ = some (.slice (some ⟨g, 0, none⟩) 0 cap) := by rw [cell_of_block hb]; rfl
  have c1 : w.cell? ⟨b, 1, none⟩ = some (.int .i64 0) := by rw [cell_of_block hb]; rfl
  have HC := hid hcap
  have HR := hid hr
  have HB := hid hb
  clear hb hr hcap
  have d1 : decide ((n : Int) ≤ (cap : Int) / 2) = false := decide_eq_false (by omega)
  have d2 : decide (9223372036854775807 - (cap : Int) - (n : Int) < (cap : Int)) = false := decide_eq_false (by omega)
  have hwn : IntKind.i64.wrap (n : Int) = (n : Int) := by rw [IntKind.wrap_i64]; omega
  go_enter Tryd.func50, Tryd.ntmps50
  go_wp2_with fail
  refine (len_any b 0 cap _ w c0 c1 (by omega)).mono ?_
  rintro e w1 ⟨rfl, k1, hw1⟩
  have HW1 := hid hw1
  have c0' : w1.cell? ⟨b, 0, none⟩ = some (.slice (some ⟨g, 0, none⟩) 0 cap) := by rw [hw1]; exact c0
  have c1' : w1.cell? ⟨b, 1, none⟩ = some (.int .i64 0) := by rw [hw1]; exact c1
  clear hw1 c0 c1
  go_wp2_with fail
  refine (try_none b 0 cap n _ w1 c0' (by omega) (by omega) (by omega)).mono ?_
  rintro e w2 ⟨rfl, hw2⟩
  rw [hw2]; clear hw2 w2
  go_wp2_with fail
  have hb1 : w1.heap[b]? = some (.cells #[.slice (some ⟨g, 0, none⟩) 0 cap, .int .i64 0, .int .i8 lr] 49 (0, 0)) := by rw [HW1.out]; exact HB.out
  have hr1 : w1.drew.heap[g]? = some (.cells cur.toArray 5 (0, 0)) := by show w1.heap[g]? = _; rw [HW1.out]; exact HR.out
  have hbl := Lib.lt_of_heap hb1
  have HB1 := hid hb1
  have HG := hid (grow_slice g 0 cap n cur.toArray w1.drew hr1 (by rw [HC.out]; simp) (by omega) hn (by omega) (by omega) (by simp))
  clear hb1 hr1
  go_region_with (go_at_call 59; refine HG.out.mono ?_; rintro e w2 ⟨cap2, cells, rfl, q1, q2, q3, q4, q5, q6⟩; have hb2 := q6.block b hbl; have c02 : w2.cell? ⟨b, 0, none⟩ = some (.slice (some ⟨g, 0, none⟩) 0 cap) := (World.cell?_of_block (a := ⟨b, 0, none⟩) hb2).trans c0'; have c12 : w2.cell? ⟨b, 1, none⟩ = some (.int .i64 0) := (World.cell?_of_block (a := ⟨b, 1, none⟩) hb2).trans c1'; have f02 : w2.frozen? ⟨b, 0, none⟩ = false := (World.frozen?_of_block (a := ⟨b, 0, none⟩) hb2).trans (frozen_of_block HB1.out 0); have f12 : w2.frozen? ⟨b, 1, none⟩ = false := (World.frozen?_of_block (a := ⟨b, 1, none⟩) hb2).trans (frozen_of_block HB1.out 1); clear hb2)
  all_goals
    have q4i : (n : Int) ≤ (cap2 : Int) := by omega
    have Q1 := hid q1
    have Q2 := hid q2
    have Q5 := hid q5
    have Q6 := hid q6
    clear q1 q2 q3 q5 q6 HG
    go_wp2
    go_ret
    have GE := grow_end (l := 0) (n := n) (X := .slice (some ⟨w1.heap.size, 0, none⟩) 0 cap2) HW1.out HB1.out Q1.out Q2.out (by simp : _ = []) q4 Q5.out Q6.out
    rw [Nat.zero_add] at GE
    exact ⟨rfl, GE⟩

set_option maxRecDepth 100000 in
set_option maxHeartbeats 4000000 in
theorem grow_nil_big (b n : Nat) (lr : Int) (w : World) (hb : w.heap[b]? = some (.cells #[.slice none 0 0, .int .i64 0, .int .i8 lr] 49 (0, 0))) (hn : 64 < n) (hlim : n ≤ 140737488355328) :
    Calls Tryd.prog 50 #[.pointer (some ⟨b, 0, none⟩), .int .i64 (n : Int)] w fun e w' => e = .returned (.int .i64 0) ∧ Grown b 0 n [] w w' := by
  have hnil := fun (W : World) (a : Option Addr) (n c : Nat) => Lib.run_eql_slice_nil (P := Tryd.prog) W 22 5 a n c 0 0 Tryd.underlying22
  have c0 : w.cell? ⟨b, 0, none⟩ = some (.slice none 0 0) := by rw [cell_of_block hb]; rfl
  have c1 : w.cell? ⟨b, 1, none⟩ = some (.int .i64 0) := by rw [cell_of_block hb]; rfl
  have HB := hid hb
  clear hb
  have d0 : decide ((n : Int) ≤ 64) = false := decide_eq_false (by omega)
  have d1 : decide ((n : Int) ≤ 0) = false := decide_eq_false (by omega)
  have d2 : decide (9223372036854775807 - (n : Int) < 0) = false := decide_eq_false (by omega)
  have hwn : IntKind.i64.wrap (n : Int) = (n : Int) := by rw [IntKind.wrap_i64]; omega
  go_enter Tryd.func50, Tryd.ntmps50
  go_wp2_with fail
  refine (len_any b 0 0 none w c0 c1 (by omega)).mono ?_
  rintro e w1 ⟨rfl, k1, hw1⟩
  have HW1 := hid hw1
  have c0' : w1.cell? ⟨b, 0, none⟩ = some (.slice none 0 0) := by rw [hw1]; exact c0
  have c1' : w1.cell? ⟨b, 1, none⟩ = some (.int .i64 0) := by rw [hw1]; exact c1
  clear hw1 c0 c1
  go_wp2_with fail
  refine (try_none b 0 0 n none w1 c0' (by omega) (by omega) (by omega)).mono ?_
  rintro e w2 ⟨rfl, hw2⟩
  rw [hw2]; clear hw2 w2
  go_wp2_with fail
  have hb1 : w1.heap[b]? = some (.cells #[.slice none 0 0, .int .i64 0, .int .i8 lr] 49 (0, 0)) := by rw [HW1.out]; exact HB.out
  have hbl := Lib.lt_of_heap hb1
  have HB1 := hid hb1
  have HG := hid (grow_slice_nil n w1.drew (by omega) hlim)
  clear hb1
  go_region_with (go_at_call 59; refine HG.out.mono ?_; rintro e w2 ⟨cap2, cells, rfl, q1, q2, q4, q5, q6⟩; have hb2 := q6.block b hbl; have c02 : w2.cell? ⟨b, 0, none⟩ = some (.slice none 0 0) := (World.cell?_of_block (a := ⟨b, 0, none⟩) hb2).trans c0'; have c12 : w2.cell? ⟨b, 1, none⟩ = some (.int .i64 0) := (World.cell?_of_block (a := ⟨b, 1, none⟩) hb2).trans c1'; have f02 : w2.frozen? ⟨b, 0, none⟩ = false := (World.frozen?_of_block (a := ⟨b, 0, none⟩) hb2).trans (frozen_of_block HB1.out 0); have f12 : w2.frozen? ⟨b, 1, none⟩ = false := (World.frozen?_of_block (a := ⟨b, 1, none⟩) hb2).trans (frozen_of_block HB1.out 1); clear hb2)
  all_goals
    have q4i : (n : Int) ≤ (cap2 : Int) := by omega
    have Q1 := hid q1
    have Q2 := hid q2
    have Q5 := hid q5
    have Q6 := hid q6
    clear q1 q2 q5 q6 HG
    go_wp2
    go_ret
    have GE := grow_end (l := 0) (n := n) (X := .slice (some ⟨w1.heap.size, 0, none⟩) 0 cap2) HW1.out HB1.out Q1.out Q2.out (by simp : _ = []) (by omega) Q5.out Q6.out
    rw [Nat.zero_add] at GE
    exact ⟨rfl, GE⟩

end Go.Proofs.Qxb6608669aDoor
