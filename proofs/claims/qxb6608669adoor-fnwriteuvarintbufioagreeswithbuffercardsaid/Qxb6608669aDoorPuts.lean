/-
  Seat b6608669aD: putFirstQuad, putPair, putNineOrTen. By an AI agent.
-/
import Derived.Test.Qxb6608669aDoorRow
namespace Go.Proofs.Qxb6608669aDoor
open Go.RowKit

theorem put32r (g o n c : Nat) (v : Int) (y : Nat) (cur : List Value) (w : World) (hv : v = ((quadw y : Nat) : Int)) (hn : 4 ≤ n) (hr : Row w g cur) (ho : o + 4 ≤ cur.length) :
    Calls Tryd.prog 56 #[.agg #[], .slice (some ⟨g, o, none⟩) n c, .int .u32 v] w fun e w' => e = .returned (.tuple #[]) ∧ Put w w' g (splice cur o (bc [((y % 128 + 128 : Nat) : Int), ((y / 128 % 128 + 128 : Nat) : Int), ((y / 16384 % 128 + 128 : Nat) : Int), ((y / 2097152 % 128 + 128 : Nat) : Int)])) := by
  subst hv
  obtain ⟨x0, c0⟩ := hr.get o (by omega)
  obtain ⟨x1, c1⟩ := hr.get (o + 1) (by omega)
  obtain ⟨x2, c2⟩ := hr.get (o + 2) (by omega)
  obtain ⟨x3, c3⟩ := hr.get (o + 3) (by omega)
  refine (put32 g o n c (quadw y) (quadw_lt y) x0 x1 x2 x3 w hn c0 c1 c2 c3 (hr.frozen _) (hr.frozen _) (hr.frozen _) (hr.frozen _)).mono ?_
  rintro e w' ⟨rfl, rfl⟩
  refine ⟨rfl, ?_⟩
  have e0 : quadw y % 256 = y % 128 + 128 := by unfold quadw; omega
  have e1 : quadw y / 256 % 256 = y / 128 % 128 + 128 := by unfold quadw; omega
  have e2 : quadw y / 256 / 256 % 256 = y / 16384 % 128 + 128 := by unfold quadw; omega
  have e3 : quadw y / 256 / 256 / 256 % 256 = y / 2097152 % 128 + 128 := by unfold quadw; omega
  rw [le4, e0, e1, e2, e3]
  exact put_cells _ hr (by simp [bc]; omega)

set_option maxRecDepth 100000 in
set_option maxHeartbeats 1000000 in
theorem putQuad (g o L c y : Nat) (cur : List Value) (w : World) (h1 : y < 268435456) (hr : Row w g cur) (hL : 4 ≤ L) (ho : o + L ≤ cur.length) :
    Calls Tryd.prog 47 #[.slice (some ⟨g, o, none⟩) L c, .int .u64 (y : Int)] w fun e w' => e = .returned (.tuple #[]) ∧ Put w w' g (splice cur o (bc [((y % 128 + 128 : Nat) : Int), ((y / 128 % 128 + 128 : Nat) : Int), ((y / 16384 % 128 + 128 : Nat) : Int), ((y / 2097152 % 128 + 128 : Nat) : Int)])) := by
  have WQ : Hid _ := quad_word y
  have hwr : IntKind.u32.wrap (y : Int) = (y : Int) := by rw [IntKind.wrap_u32]; omega
  go_enter Tryd.func47, Tryd.ntmps47
  go_wp2
  go_region_with (first
    | (go_at_call 52; refine (quad_any y _ h1).mono ?_; rintro e w' ⟨rfl, hw⟩; rw [hw]; clear hw w')
    | (go_at_call 56; refine (put32r g o L c _ y cur w.drew WQ.out hL hr (by omega)).mono ?_; rintro e w2 ⟨rfl, P1⟩))
  all_goals
    go_wp2
    go_end0
    exact ⟨rfl, P1.of_drew⟩

set_option maxRecDepth 100000 in
set_option maxHeartbeats 1000000 in
theorem putPair (g o L c y : Nat) (cur : List Value) (w : World) (h0 : 128 ≤ y) (h1 : y < 16384) (hr : Row w g cur) (hL : 2 ≤ L) (ho : o + L ≤ cur.length) :
    Calls Tryd.prog 48 #[.slice (some ⟨g, o, none⟩) L c, .int .u64 (y : Int)] w fun e w' => e = .returned (.int .i64 2) ∧ Put w w' g (splice cur o (uc y)) := by
  go_enter Tryd.func48, Tryd.ntmps48
  go_wp2
  go_region_with (first
    | (go_at_call 43; refine (pair_any y _ h1).mono ?_; rintro e w' ⟨rfl, hw⟩; rw [hw]; clear hw w')
    | (go_at_call 53; refine (put16r g o L c _ (y % 128 + 128) (y / 128) cur w.drew (by omega) (by omega) (by omega) hL hr (by omega)).mono ?_; rintro e w2 ⟨rfl, P1⟩))
  all_goals
    go_wp2
    go_ret
    refine ⟨rfl, ?_⟩
    have e2 : uc y = bc [((y % 128 + 128 : Nat) : Int), ((y / 128 : Nat) : Int)] := by
      unfold uc ui
      rw [uv2 y h0 h1]
      rfl
    rw [e2]
    exact P1.of_drew
end Go.Proofs.Qxb6608669aDoor
