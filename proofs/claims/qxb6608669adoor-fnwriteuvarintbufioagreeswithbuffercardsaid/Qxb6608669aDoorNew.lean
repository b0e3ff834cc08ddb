/-
  Seat b6608669aD: bufio.NewWriterSize. By an AI agent.
-/
import Derived.Test.Qxb6608669aDoorOol
namespace Go.Proofs.Qxb6608669aDoor
open Go.RowKit

theorem fresh_bw (B bb S : Nat) (A : Array Value) (w : World) (hb : w.heap[bb]? = some (.cells #[.slice none 0 0, .int .i64 0, .int .i8 0] 49 (0, 0))) (hB : B ≤ bb) (hA : A.size = S) (h1 : 1 ≤ S) (h2 : S ≤ 65536) :
    Bw B (w.heap.size + 1) w.heap.size bb S none [] [] ((w.alloc (.cells A 5)).alloc (.cells #[.nilIface, .slice (some ⟨w.heap.size, 0, none⟩) S S, .int .i64 0, .iface 38 (.pointer (some ⟨bb, 0, none⟩))] 59)) := by
  have hlt := lt_of_some hb
  refine ⟨?_, ⟨A.toList, ?_, by simpa using hA, rfl⟩, Nat.zero_le _, h1, h2, ⟨0, .inl ⟨rfl, rfl, ?_⟩⟩, by omega, by omega, by omega, by simp, by simp, by omega, by omega, hB, (fun k hk => by cases hk), by simp⟩
  · have := alloc_at (w.alloc (.cells A 5)) (.cells #[.nilIface, .slice (some ⟨w.heap.size, 0, none⟩) S S, .int .i64 0, .iface 38 (.pointer (some ⟨bb, 0, none⟩))] 59)
    simpa using this
  · unfold Row
    rw [Below.heap_alloc _ _ _ (by simp), alloc_at]
  · rw [Below.heap_alloc _ _ _ (by simp; omega), Below.heap_alloc _ _ _ hlt]
    exact hb

set_option maxRecDepth 100000 in
set_option maxHeartbeats 1000000 in
theorem new_any (B bb : Nat) (z : Int) (w : World) (hz : z ≤ 65536) (hb : w.heap[bb]? = some (.cells #[.slice none 0 0, .int .i64 0, .int .i8 0] 49 (0, 0))) (hB : B ≤ bb) :
    Calls Tryd.prog 27 #[.iface 38 (.pointer (some ⟨bb, 0, none⟩)), .int .i64 z] w fun e w' => ∃ bw gb S, e = .returned (.pointer (some ⟨bw, 0, none⟩)) ∧ Hid (Bw B bw gb bb S none [] [] w' ∧ Below B w w') := by
  have t1 := ta_no ⟨bb, 0, none⟩
  obtain ⟨S, hS, hS1, hS2⟩ : ∃ S : Nat, (S : Int) = (if z ≤ 0 then 4096 else z) ∧ 1 ≤ S ∧ S ≤ 65536 := by
    refine ⟨(if z ≤ 0 then 4096 else z).toNat, ?_, ?_, ?_⟩ <;> split <;> omega
  have hmk := run_make_row' (P := Tryd.prog) 22 5 (.int .u8 0) 1 Tryd.underlying22 Tryd.info5 rfl .i64 .i64 S (by omega) (by omega)
  have hsz := size_madeCells #[.int .u8 0] S
  obtain ⟨A, hA⟩ : ∃ A, A = madeCells #[.int .u8 0] S := ⟨_, rfl⟩
  rw [← hA] at hmk hsz
  have HF := hid (And.intro (fresh_bw B bb S A w hb hB hsz hS1 hS2) (show Below B w ((w.alloc (.cells A 5)).alloc (.cells #[.nilIface, .slice (some ⟨w.heap.size, 0, none⟩) S S, .int .i64 0, .iface 38 (.pointer (some ⟨bb, 0, none⟩))] 59)) from
    ((Below.refl _ _).alloc (by have := lt_of_some hb; omega) _).alloc (by have := lt_of_some hb; simp; omega) _))
  clear hA hb hB hsz
  by_cases h0 : z ≤ 0
  · rw [if_pos h0] at hS
    obtain rfl : S = 4096 := by omega
    have hmk4 : ∀ w, (Instr.makeSlice 22 (.int .i64 4096) (.int .i64 4096)).run Tryd.prog w = .ok (.slice (some ⟨w.heap.size, 0, none⟩) 4096 4096) (w.alloc (.cells A 5)) := hmk
    clear hmk hS1 hS2 hS
    have hd : decide (z ≤ 0) = true := decide_eq_true h0
    go_enter Tryd.func27, Tryd.ntmps27
    go_wp2
    go_ret
    exact ⟨_, _, _, rfl, HF⟩
  · rw [if_neg h0] at hS
    subst hS
    have hd : decide ((S : Int) ≤ 0) = false := decide_eq_false h0
    go_enter Tryd.func27, Tryd.ntmps27
    go_wp2
    go_ret
    exact ⟨_, rfl, _, _, HF⟩
end Go.Proofs.Qxb6608669aDoor
