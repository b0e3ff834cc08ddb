/-
  Seat b6608669aD: the walk of FnWriteUvarintBufioAgreesWithBuffer. By an AI agent.
-/
import Derived.Test.Qxb6608669aDoorTwo
import Derived.Test.Qxb6608669aDoorZz
namespace Go.Proofs.Qxb6608669aDoor
open Go.RowKit

theorem clone_more (a : Option Addr) (n c : Nat) (zs : List Int) (w : World) (hz : zs.length = n) (hn : n ≤ 2097152) (ha : a = none → n = 0 ∧ c = 0) (hc : Lies w a zs) :
    Calls Tryd.prog 8 #[.slice a n c] w fun e w' => ∃ a' c', e = .returned (.slice a' n c') ∧ (a' = none → n = 0 ∧ c' = 0) ∧ Lies w' a' zs ∧ Below w.heap.size w w' ∧ n ≤ c' ∧ ∀ x, a' = some x → x.block < w'.heap.size := by
  cases a with
  | none =>
    obtain ⟨rfl, rfl⟩ := ha rfl
    refine (clone_nil w).mono ?_
    rintro e w' ⟨rfl, rfl⟩
    exact ⟨none, 0, rfl, fun _ => ⟨rfl, rfl⟩, hc, Below.refl _ _, Nat.le_refl _, fun x hx => by cases hx⟩
  | some x =>
    refine (clone_some x n c zs w hz hn hc).mono ?_
    rintro e w' ⟨rfl, rfl⟩
    refine ⟨_, _, rfl, (fun h => by cases h), ?_, (Below.refl _ _).alloc (Nat.le_refl _) _, Nat.le_refl _, fun y hy => ?_⟩
    · simpa using lies_alloc w zs [] 5
    · injection hy with hy
      rw [← hy]
      simp

set_option maxHeartbeats 400000 in
theorem bytes15_yes (a : Option Addr) (n c : Nat) (x1 x2 x3 : Int) (w : World) (h : n ≤ 1048576) :
    Calls Tryd.prog 15 #[.int .i64 x1, .slice a n c, .int .u8 x2, .int .u64 x3] w fun e w' => e = .returned (.bool true) ∧ w' = w := by
  have h' : ¬ (1048576 : Int) < (n : Int) := by omega
  go_enter Tryd.func15, Tryd.ntmps15
  go_wp2
  go_ret
  exact ⟨rfl, rfl⟩

set_option maxHeartbeats 400000 in
theorem bytes15_no (a : Option Addr) (n c : Nat) (x1 x2 x3 : Int) (w : World) (h : ¬ n ≤ 1048576) :
    Calls Tryd.prog 15 #[.int .i64 x1, .slice a n c, .int .u8 x2, .int .u64 x3] w fun e w' => e = .returned (.bool false) ∧ w' = w := by
  have h' : (1048576 : Int) < (n : Int) := by omega
  go_enter Tryd.func15, Tryd.ntmps15
  go_wp2
  go_ret
  exact ⟨rfl, rfl⟩

theorem agree_no (a : Option Addr) (n c : Nat) (z r x : Int) (w : World) (hn : ¬ n ≤ 1048576) :
    Calls Tryd.prog 4 #[.int .i64 z, .slice a n c, .int .u8 r, .int .u64 x] w fun e w' => e = .returned (.bool true) ∧ Below w.heap.size w w' := by
  go_enter Tryd.func4, Tryd.ntmps4
  go_wp2_with fail
  refine (bytes15_no _ _ _ _ _ _ _ hn).mono ?_
  rintro e w' ⟨rfl, hw⟩
  rw [hw]; clear hw w'
  go_wp2_with fail
  go_ret
  exact ⟨rfl, Below.refl _ _⟩

theorem agree_wide (a : Option Addr) (n c : Nat) (z r x : Int) (w : World) (hn : n ≤ 1048576) (hz : ¬ z ≤ 65536) :
    Calls Tryd.prog 4 #[.int .i64 z, .slice a n c, .int .u8 r, .int .u64 x] w fun e w' => e = .returned (.bool true) ∧ Below w.heap.size w w' := by
  have hn' : ¬ (1048576 : Int) < (n : Int) := by omega
  have hz' : decide ((65536 : Int) < z) = true := decide_eq_true (by omega)
  go_enter Tryd.func4, Tryd.ntmps4
  go_wp2_with fail
  refine (bytes15_yes _ _ _ _ _ _ _ hn).mono ?_
  rintro e w' ⟨rfl, hw⟩
  rw [hw]; clear hw w'
  go_wp2_with fail
  go_ret
  exact ⟨rfl, Below.refl _ _⟩

set_option maxRecDepth 100000 in
set_option maxHeartbeats 4000000 in
theorem agree_main (a : Option Addr) (n c r x : Nat) (z : Int) (zs : List Int) (w : World) (hz : zs.length = n) (hn : n ≤ 1048576) (hs : z ≤ 65536) (ha : a = none → n = 0 ∧ c = 0) (hc : Lies w a zs) (hr : r ≤ 255) (hx : x < 18446744073709551616) :
    Calls Tryd.prog 4 #[.int .i64 z, .slice a n c, .int .u8 (r : Int), .int .u64 (x : Int)] w fun e w' => e = .returned (.bool true) ∧ Below w.heap.size w w' := by
  have hn' : ¬ (1048576 : Int) < (n : Int) := by omega
  have hs' : decide ((65536 : Int) < z) = false := decide_eq_false (by omega)
  have HS := hid hs
  have HZ := hid hz
  have HA := hid ha
  have HX := hid hx
  have ux := ulen_le x
  clear hz ha hx hs
  go_enter Tryd.func4, Tryd.ntmps4
  go_wp2_with fail
  refine (bytes15_yes _ _ _ _ _ _ _ hn).mono ?_
  rintro e w' ⟨rfl, hw⟩
  rw [hw]; clear hw w'
  go_wp2_with fail
  refine (clone_more a n c zs w HZ.out (by omega) HA.out hc).mono ?_
  rintro e w1 ⟨a1, c1, rfl, ha1, L1, B1, hc1, hb1⟩
  have HA1 := hid ha1
  have HC1 := hid (And.intro hc1 hb1)
  clear ha1 hc1 hb1
  go_wp2_with fail
  refine (clone_more a1 n c1 zs w1 HZ.out (by omega) HA1.out L1).mono ?_
  rintro e w2 ⟨a2, c2, rfl, ha2, L2, B2, -, -⟩
  have HA2 := hid ha2
  have L12 := L1.below B2
  have B12 := Below.then B1 B2
  have HB2 := hid B2
  clear ha2 L1 B2
  go_wp2_with fail
  refine (zz_bufio z a1 n c1 x zs w2 HS.out L12 HZ.out HC1.out.1 hn (fun y hy => Nat.lt_of_lt_of_le (HC1.out.2 y hy) HB2.out.size) HX.out).mono ?_
  rintro e w3 ⟨v3, rfl, O3, B3⟩
  obtain ⟨a3, c3, rfl, hz3, ha3, L3, hc3⟩ := owns_lies O3
  have L23 := L2.below B3
  have B03 := Below.then B12 B3
  have HZ3 := hid hz3
  clear L2 B3 O3 ha3 hz3 L12 B1 B12
  go_wp2_with fail
  refine (room_any a2 n c2 r zs w3 HZ.out (by omega) hr HA2.out L23).mono ?_
  rintro e w4 ⟨pv, rfl, O4, B4⟩
  go_wp2_with fail
  refine (zz_buffer w3.heap.size n x pv zs w4 O4 B4.size (by omega) HX.out).mono ?_
  rintro e w5 ⟨v5, rfl, O5, B5⟩
  obtain ⟨a5, c5, rfl, hz5, ha5, L5, hc5⟩ := owns_lies O5
  have B35 := B4.trans B5
  have B05 := Below.then B03 B35
  have L35 := L3.below B35
  have L25 := L23.below B35
  clear B4 B5 B03 B35 O4 O5 L3 L23 hz5 ha5
  go_wp2_with fail
  refine (equal_any a3 a5 (n + ulen x) c3 c5 (zs ++ ui x) w5 HZ3.out (by omega) L35 L5).mono ?_
  rintro e w6 ⟨rfl, k6, hw6⟩
  rw [hw6]; clear hw6 w6
  have L36 : Lies (w5.drewN k6) a3 (zs ++ ui x) := L35
  have L26 : Lies (w5.drewN k6) a2 zs := L25
  have B06 : Below w.heap.size w (w5.drewN k6) := Below.then B05 (below_drewN k6)
  generalize w5.drewN k6 = w6 at *
  clear L35 L25 L5 B05
  go_wp2_with fail
  refine (iswrite_any a3 a2 (n + ulen x) n c3 c2 x zs w6 HX.out HZ.out rfl (by omega) hc3 L36 L26).mono ?_
  rintro e w7 ⟨rfl, k7, hw7⟩
  rw [hw7]; clear hw7 w7
  go_wp2
  go_ret
  exact ⟨rfl, Below.then B06 (below_drewN k7)⟩

theorem agree_any (a : Option Addr) (n c : Nat) (z r x : Int) (zs : List Int) (w : World) (hz : zs.length = n) (ha : a = none → n = 0 ∧ c = 0) (hc : Lies w a zs) (hr : 0 ≤ r ∧ r ≤ 255) (hx : 0 ≤ x ∧ x ≤ 18446744073709551615) :
    Calls Tryd.prog 4 #[.int .i64 z, .slice a n c, .int .u8 r, .int .u64 x] w fun e w' => e = .returned (.bool true) ∧ Below w.heap.size w w' := by
  obtain ⟨r', rfl⟩ := Int.eq_ofNat_of_zero_le hr.1
  obtain ⟨x', rfl⟩ := Int.eq_ofNat_of_zero_le hx.1
  by_cases hn : n ≤ 1048576
  · by_cases hs : z ≤ 65536
    · exact agree_main a n c r' x' z zs w hz hn hs ha hc (by omega) (by omega)
    · exact agree_wide a n c z _ _ w hn hs
  · exact agree_no a n c _ _ _ w hn
end Go.Proofs.Qxb6608669aDoor
