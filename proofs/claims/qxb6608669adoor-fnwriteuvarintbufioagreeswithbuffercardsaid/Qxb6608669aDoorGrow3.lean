/-
  Seat b6608669aD: grow at nil, few bytes; Write. By an AI agent.
-/
import Derived.Test.Qxb6608669aDoorGrow
namespace Go.Proofs.Qxb6608669aDoor
open Go.RowKit

set_option maxRecDepth 100000 in
set_option maxHeartbeats 4000000 in
theorem grow_nil_small (b n : Nat) (lr : Int) (w : World) (hb : w.heap[b]? = some (.cells #[.slice none 0 0, .int .i64 0, .int .i8 lr] 49 (0, 0))) (hn : 1 ≤ n) (h64 : n ≤ 64) :
    Calls Tryd.prog 50 #[.pointer (some ⟨b, 0, none⟩), .int .i64 (n : Int)] w fun e w' => e = .returned (.int .i64 0) ∧ Grown b 0 n [] w w' := by
  have hnil := fun (W : World) (a : Option Addr) (n c : Nat) => Lib.run_eql_slice_nil (P := Tryd.prog) W 22 5 a n c 0 0 Tryd.underlying22
  have c0 : w.cell? ⟨b, 0, none⟩ = some (.slice none 0 0) := by rw [cell_of_block hb]; rfl
  have c1 : w.cell? ⟨b, 1, none⟩ = some (.int .i64 0) := by rw [cell_of_block hb]; rfl
  have f0 := frozen_of_block hb 0
  have HB := hid hb
  have hbl := Lib.lt_of_heap hb
  clear hb
  have d0 : decide ((n : Int) ≤ 64) = true := decide_eq_true (by omega)
  have hmk : ∀ W : World, (Instr.makeSlice 22 (.int .i64 (n : Int)) (.int .i64 64)).run Tryd.prog W = .ok (.slice (some ⟨W.heap.size, 0, none⟩) n 64) (W.alloc (.cells (List.replicate 64 (Value.int .u8 0)).toArray 5)) := fun W => by
    obtain ⟨i, hi, hz0, hz1, hz2⟩ := info_parts Tryd.info5
    have h := run_make (P := Tryd.prog) W 22 5 i (.int .u8 0) Tryd.underlying22 hi hz0 .i64 .i64 n 64 (by omega) (by omega) (by rw [hz2]; decide) (by decide)
    have e : madeCells (Value.int .u8 0).cells 64 = (List.replicate 64 (Value.int .u8 0)).toArray := by
      rw [← toList_madeCells_one]; rfl
    rw [h, hz1, Int.toNat_natCast, show (64 : Int).toNat * 1 = 64 from rfl, e]; rfl
  obtain ⟨R, hR⟩ : ∃ R : Obj, R = .cells (List.replicate 64 (Value.int .u8 0)).toArray 5 := ⟨_, rfl⟩
  rw [← hR] at hmk
  have HRR := hid hR
  clear hR
  go_enter Tryd.func50, Tryd.ntmps50
  go_wp2_with fail
  refine (len_any b 0 0 none w c0 c1 (by omega)).mono ?_
  rintro e w1 ⟨rfl, k1, hw1⟩
  have HW1 := hid hw1
  have c0' : w1.cell? ⟨b, 0, none⟩ = some (.slice none 0 0) := by rw [hw1]; exact c0
  have c1' : w1.cell? ⟨b, 1, none⟩ = some (.int .i64 0) := by rw [hw1]; exact c1
  have hbl1 : b < w1.heap.size := by rw [hw1]; exact hbl
  have c0a : (w1.alloc R).cell? ⟨b, 0, none⟩ = some (.slice none 0 0) := (World.cell?_alloc_past (w := w1) R b 0 hbl1).trans c0'
  have f0a : (w1.alloc R).frozen? ⟨b, 0, none⟩ = false := (World.frozen?_alloc_past (w := w1) R b 0 hbl1).trans (by rw [hw1]; exact f0)
  clear hw1 c0 c1
  go_wp2_with fail
  refine (try_none b 0 0 n none w1 c0' (by omega) (by omega) (by omega)).mono ?_
  rintro e w2 ⟨rfl, hw2⟩
  rw [hw2]; clear hw2 w2
  go_wp2
  go_ret
  refine ⟨rfl, w1.heap.size, List.replicate 64 (Value.int .u8 0), lr, ?_, ?_, ?_, by simp; omega, by unfold maxLen; simp, by simp, ?_⟩
  · rw [HW1.out]; exact Nat.le_refl _
  · have hb1 : w1.heap[b]? = some (.cells #[.slice none 0 0, .int .i64 0, .int .i8 lr] 49 (0, 0)) := by rw [HW1.out]; exact HB.out
    rw [Below.heap_alloc _ _ _ (by simp [World.setCell]; exact hbl1), Lib.heap_setCell_same (i := 0) hb1]
    simp
  · unfold Row
    have e := alloc_at (w1.setCell ⟨b, 0, none⟩ (.slice (some ⟨w1.heap.size, 0, none⟩) n 64)) R
    rw [World.size_setCell] at e
    rw [e, HRR.out]
  · have g1 : w.grownBy w1 (some b) := by rw [HW1.out]; exact ⟨rfl, rfl, rfl, Nat.le_refl _, fun _ _ _ => rfl⟩
    exact Lib.grownBy_trans (Lib.grownBy_setB g1 0 _) (World.grownBy_alloc _ _ _)
end Go.Proofs.Qxb6608669aDoor
