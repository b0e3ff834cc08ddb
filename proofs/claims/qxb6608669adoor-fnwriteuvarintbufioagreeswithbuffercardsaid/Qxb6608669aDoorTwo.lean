/-
  Seat b6608669aD: the walk of FnWriteUvarintTwoValuesFollowEachOther. By an AI agent.
-/
import Derived.Test.Qxb6608669aDoorVar
namespace Go.Proofs.Qxb6608669aDoor
open Go.RowKit

theorem owns_lies {w : World} {B : Nat} {v : Value} {n : Nat} {zs : List Int} (h : w.ownsRow B 5 1 v n (bc zs)) : ∃ a c, v = .slice a n c ∧ zs.length = n ∧ (a = none → n = 0 ∧ c = 0) ∧ Lies w a zs ∧ n ≤ c := by
  have hl : zs.length = n := by have := h.1; simpa [bc] using this
  rcases h.2 with ⟨rfl, rfl⟩ | ⟨g, cap, cur, rfl, _, _, hnc, _⟩
  · refine ⟨none, 0, rfl, hl, fun _ => ⟨rfl, rfl⟩, (fun j hj => by omega), Nat.le_refl _⟩
  · refine ⟨_, cap, rfl, hl, (fun h => by cases h), fun j hj => ⟨_, rfl, ?_⟩, hnc⟩
    exact h.cells (g := g) rfl j _ (bc_at zs j hj)

set_option maxHeartbeats 400000 in
theorem bytes7_yes (a : Option Addr) (n c : Nat) (x1 x2 x3 : Int) (w : World) (h : n ≤ 1048576) :
    Calls Tryd.prog 7 #[.slice a n c, .int .u8 x1, .int .u64 x2, .int .u64 x3] w fun e w' => e = .returned (.bool true) ∧ w' = w := by
  have h' : ¬ (1048576 : Int) < (n : Int) := by omega
  go_enter Tryd.func7, Tryd.ntmps7
  go_wp2
  go_ret
  exact ⟨rfl, rfl⟩

set_option maxHeartbeats 400000 in
theorem bytes7_no (a : Option Addr) (n c : Nat) (x1 x2 x3 : Int) (w : World) (h : ¬ n ≤ 1048576) :
    Calls Tryd.prog 7 #[.slice a n c, .int .u8 x1, .int .u64 x2, .int .u64 x3] w fun e w' => e = .returned (.bool false) ∧ w' = w := by
  have h' : (1048576 : Int) < (n : Int) := by omega
  go_enter Tryd.func7, Tryd.ntmps7
  go_wp2
  go_ret
  exact ⟨rfl, rfl⟩

theorem two_no (a : Option Addr) (n c : Nat) (r x y : Int) (w : World) (hn : ¬ n ≤ 1048576) :
    Calls Tryd.prog 3 #[.slice a n c, .int .u8 r, .int .u64 x, .int .u64 y] w fun e w' => e = .returned (.bool true) ∧ Below w.heap.size w w' := by
  go_enter Tryd.func3, Tryd.ntmps3
  go_wp2_with fail
  refine (bytes7_no _ _ _ _ _ _ _ hn).mono ?_
  rintro e w' ⟨rfl, hw⟩
  rw [hw]; clear hw w'
  go_wp2_with fail
  go_ret
  exact ⟨rfl, Below.refl _ _⟩

theorem below_drewN {w : World} (k : Nat) : Below w.heap.size w (w.drewN k) := ⟨rfl, rfl, rfl, Nat.le_refl _, fun _ _ => rfl⟩
theorem Below.then {w w1 w2 : World} (h : Below w.heap.size w w1) (k : Below w1.heap.size w1 w2) : Below w.heap.size w w2 := h.trans (k.mono h.size)

set_option maxRecDepth 100000 in
set_option maxHeartbeats 4000000 in
theorem two_main (a : Option Addr) (n c r x y : Nat) (zs : List Int) (w : World) (hz : zs.length = n) (hn : n ≤ 1048576) (ha : a = none → n = 0 ∧ c = 0) (hc : Lies w a zs) (hr : r ≤ 255) (hx : x < 18446744073709551616) (hy : y < 18446744073709551616) :
    Calls Tryd.prog 3 #[.slice a n c, .int .u8 (r : Int), .int .u64 (x : Int), .int .u64 (y : Int)] w fun e w' => e = .returned (.bool true) ∧ Below w.heap.size w w' := by
  have hn' : ¬ (1048576 : Int) < (n : Int) := by omega
  have HZ := hid hz
  have HA := hid ha
  have HX := hid hx
  have HY := hid hy
  have ux := ulen_le x
  have uy := ulen_le y
  have uy1 := ulen_pos y
  clear hz ha hx hy
  go_enter Tryd.func3, Tryd.ntmps3
  go_wp2_with fail
  refine (bytes7_yes _ _ _ _ _ _ _ hn).mono ?_
  rintro e w' ⟨rfl, hw⟩
  rw [hw]; clear hw w'
  go_wp2_with fail
  refine (clone_any a n c zs w HZ.out (by omega) HA.out hc).mono ?_
  rintro e w1 ⟨a1, c1, rfl, ha1, L1, B1⟩
  have HA1 := hid ha1
  clear ha1
  go_wp2_with fail
  refine (clone_any a1 n c1 zs w1 HZ.out (by omega) HA1.out L1).mono ?_
  rintro e w2 ⟨a2, c2, rfl, ha2, L2, B2⟩
  have HA2 := hid ha2
  have L12 := L1.below B2
  have B12 := Below.then B1 B2
  clear ha2 L1
  go_wp2_with fail
  refine (room_any a1 n c1 r zs w2 HZ.out (by omega) hr HA1.out L12).mono ?_
  rintro e w3 ⟨pv, rfl, O3, B3⟩
  go_wp2_with fail
  refine (zz_buffer w2.heap.size n x pv zs w3 O3 B3.size (by omega) HX.out).mono ?_
  rintro e w4 ⟨v4, rfl, O4, B4⟩
  obtain ⟨a4, c4, rfl, hz4, ha4, L4, hc4⟩ := owns_lies O4
  have B24 := B3.trans B4
  have B04 := Below.then B12 B24
  have L24 := L2.below B24
  clear B1 B2 B12 B3 B4 O3 O4 L12 L2
  have HZ4 := hid hz4
  have HA4 := hid ha4
  clear hz4 ha4
  go_wp2_with fail
  refine (iswrite_any a4 a2 (n + ulen x) n c4 c2 x zs w4 HX.out HZ.out rfl (by omega) hc4 L4 L24).mono ?_
  rintro e w5 ⟨rfl, k5, hw5⟩
  rw [hw5]; clear hw5 w5
  have L45 : Lies (w4.drewN k5) a4 (zs ++ ui x) := L4
  have B05 : Below w.heap.size w (w4.drewN k5) := Below.then B04 (below_drewN k5)
  generalize w4.drewN k5 = w5 at *
  clear L4 B04 L24
  go_wp2_with fail
  refine (clone_any a4 (n + ulen x) c4 (zs ++ ui x) w5 HZ4.out (by omega) HA4.out L45).mono ?_
  rintro e w6 ⟨a6, c6, rfl, ha6, L6, B6⟩
  have HA6 := hid ha6
  have B06 := Below.then B05 B6
  clear ha6 L45 B05 B6
  go_wp2_with fail
  refine (room_any a6 (n + ulen x) c6 r (zs ++ ui x) w6 HZ4.out (by omega) hr HA6.out L6).mono ?_
  rintro e w7 ⟨pv7, rfl, O7, B7⟩
  go_wp2_with fail
  refine (zz_buffer w6.heap.size (n + ulen x) y pv7 (zs ++ ui x) w7 O7 B7.size (by omega) HY.out).mono ?_
  rintro e w8 ⟨v8, rfl, O8, B8⟩
  obtain ⟨a8, c8, rfl, hz8, ha8, L8, hc8⟩ := owns_lies O8
  have B68 := B7.trans B8
  have B08 := Below.then B06 B68
  have L68 := L6.below B68
  have HZ8 := hid hz8
  clear hz8 ha8 B7 B8 B06 B68 O7 O8 L6
  go_wp2_with fail
  refine (room_any none 0 0 r [] w8 rfl (by omega) hr (fun _ => ⟨rfl, rfl⟩) (Lies.nil _ _)).mono ?_
  rintro e w9 ⟨pv9, rfl, O9, B9⟩
  go_wp2_with fail
  refine (zz_buffer w8.heap.size 0 y pv9 [] w9 O9 B9.size (by omega) HY.out).mono ?_
  rintro e w10 ⟨v10, rfl, O10, B10⟩
  rw [Nat.zero_add, List.nil_append] at O10
  obtain ⟨a10, c10, rfl, hz10, ha10, L10, hc10⟩ := owns_lies O10
  have B8t := B9.trans B10
  have B010 := Below.then B08 B8t
  have L8t := L8.below B8t
  have L6t := L68.below B8t
  have HZ10 := hid hz10
  clear hz10 ha10 B9 B10 B08 B8t O9 O10 L8 L68
  obtain ⟨b10, o10, rfl, g10⟩ := addr_of L10 (by rw [ui_length]; omega)
  obtain ⟨b6, o6, rfl, -⟩ := addr_of L6t (by rw [HZ4.out]; have := ulen_pos x; omega)
  have G10 := hid g10
  clear g10
  go_wp2_with fail
  refine (isvar_any b10 o10 (ulen y) c10 y w10 HY.out rfl (fun j hj => by rw [G10.out j (by rw [ui_length]; exact hj), ui_getD y j hj])).mono ?_
  rintro e w11 ⟨rfl, hw11⟩
  rw [hw11]; clear hw11 w11
  go_wp2_with fail
  refine (concat_some ⟨b6, o6, none⟩ ⟨b10, o10, none⟩ (n + ulen x) (ulen y) c6 c10 (zs ++ ui x) (ui y) w10 HZ4.out (ui_length y) (by omega) (by omega) (by omega) L6t L10).mono ?_
  rintro e w11 ⟨rfl, hw11⟩
  have L11 : Lies w11 (some ⟨w10.heap.size, 0, none⟩) (zs ++ ui x ++ ui y) := by rw [hw11]; simpa using lies_alloc w10 (zs ++ ui x ++ ui y) [] 5
  have B11 : Below w10.heap.size w10 w11 := by rw [hw11]; exact (Below.refl _ _).alloc (Nat.le_refl _) _
  have L8u := L8t.below B11
  have B011 := Below.then B010 B11
  clear hw11
  go_wp2_with fail
  refine (equal_any a8 (some ⟨w10.heap.size, 0, none⟩) (n + ulen x + ulen y) _ _ (zs ++ ui x ++ ui y) w11 HZ8.out (by omega) L8u L11).mono ?_
  rintro e w12 ⟨rfl, k12, hw12⟩
  rw [hw12]; clear hw12 w12
  go_wp2
  go_ret
  exact ⟨rfl, Below.then B011 (below_drewN k12)⟩

theorem two_any (a : Option Addr) (n c : Nat) (r x y : Int) (zs : List Int) (w : World) (hz : zs.length = n) (ha : a = none → n = 0 ∧ c = 0) (hc : Lies w a zs) (hr : 0 ≤ r ∧ r ≤ 255) (hx : 0 ≤ x ∧ x ≤ 18446744073709551615) (hy : 0 ≤ y ∧ y ≤ 18446744073709551615) :
    Calls Tryd.prog 3 #[.slice a n c, .int .u8 r, .int .u64 x, .int .u64 y] w fun e w' => e = .returned (.bool true) ∧ Below w.heap.size w w' := by
  obtain ⟨r', rfl⟩ := Int.eq_ofNat_of_zero_le hr.1
  obtain ⟨x', rfl⟩ := Int.eq_ofNat_of_zero_le hx.1
  obtain ⟨y', rfl⟩ := Int.eq_ofNat_of_zero_le hy.1
  by_cases hn : n ≤ 1048576
  · exact two_main a n c r' x' y' zs w hz hn ha hc (by omega) (by omega) (by omega)
  · exact two_no a n c _ _ _ w hn
end Go.Proofs.Qxb6608669aDoor
