/-
  Seat b6606004aF: the walk of FnSamplesAddScriptReadsBack. By an AI agent.
-/
import Derived.Test.Qxb6606004aFmtState
import Derived.Deep.RegionHeld3
namespace Go.Proofs.Qxb6606004aFmt
open Go.RowKit

theorem law_early (a1 a2 : Option Addr) (n m c1 c2 : Nat) (w : World) (he : ¬ (n ≤ 131072 ∧ m ≤ 131072)) :
    Calls Tryf.prog 5 #[.slice a1 n c1, .slice a2 m c2] w fun e w' => e = .returned (.bool true) ∧ Below w.heap.size w w' := by
  have HC := bytes18 a1 a2 n m c1 c2 w
  go_enter Tryf.func5, Tryf.ntmps5
  go_wp2_with fail
  refine HC.mono ?_
  rintro e w' ⟨⟨x, rfl⟩, hw⟩
  rw [hw]; clear hw w' HC
  cases x with
  | false =>
    go_wp2_with fail
    go_ret
    exact ⟨rfl, Below.refl _ _⟩
  | true =>
    by_cases h1 : n ≤ 131072
    · have d1 : decide ((131072 : Int) < (n : Int)) = false := decide_eq_false (by omega)
      have d2 : decide ((131072 : Int) < (m : Int)) = true := decide_eq_true (by omega)
      clear he
      go_wp2_with fail
      go_ret
      exact ⟨rfl, Below.refl _ _⟩
    · have d1 : decide ((131072 : Int) < (n : Int)) = true := decide_eq_true (by omega)
      clear he
      go_wp2_with fail
      go_ret
      exact ⟨rfl, Below.refl _ _⟩

set_option maxRecDepth 100000 in
theorem law_big (a1 a2 : Option Addr) (n m c1 c2 : Nat) (w : World) (h1 : n ≤ 131072) (h2 : m ≤ 131072) (he : ¬ 8 * n + 8 * m ≤ 1048576) :
    Calls Tryf.prog 5 #[.slice a1 n c1, .slice a2 m c2] w fun e w' => e = .returned (.bool true) ∧ Below w.heap.size w w' := by
  have HC := bytes18 a1 a2 n m c1 c2 w
  have d1 : decide ((131072 : Int) < (n : Int)) = false := decide_eq_false (by omega)
  have d2 : decide ((131072 : Int) < (m : Int)) = false := decide_eq_false (by omega)
  have d3 : decide ((1048576 : Int) < 8 * (n : Int) + 8 * (m : Int)) = true := decide_eq_true (by omega)
  clear he
  go_enter Tryf.func5, Tryf.ntmps5
  go_wp2_with fail
  refine HC.mono ?_
  rintro e w' ⟨⟨x, rfl⟩, hw⟩
  rw [hw]; clear hw w' HC
  cases x with
  | false =>
    go_wp2_with fail
    go_ret
    exact ⟨rfl, Below.refl _ _⟩
  | true =>
    go_wp2_with fail
    go_ret
    exact ⟨rfl, Below.refl _ _⟩

set_option maxRecDepth 100000 in
theorem law_len (a1 a2 : Option Addr) (n m c1 c2 : Nat) (w : World) (h1 : n ≤ 131072) (h2 : m ≤ 131072) (he : 8 * n + 8 * m ≤ 1048576) (hne : n ≠ m) :
    Calls Tryf.prog 5 #[.slice a1 n c1, .slice a2 m c2] w fun e w' => e = .returned (.bool true) ∧ Below w.heap.size w w' := by
  have HC := bytes18 a1 a2 n m c1 c2 w
  have d1 : decide ((131072 : Int) < (n : Int)) = false := decide_eq_false (by omega)
  have d2 : decide ((131072 : Int) < (m : Int)) = false := decide_eq_false (by omega)
  have d3 : decide ((1048576 : Int) < 8 * (n : Int) + 8 * (m : Int)) = false := decide_eq_false (by omega)
  have d4 : ¬ (m : Int) = (n : Int) := by omega
  have d5 : ¬ m = n := by omega
  clear he hne
  go_enter Tryf.func5, Tryf.ntmps5
  go_wp2_with fail
  refine HC.mono ?_
  rintro e w' ⟨⟨x, rfl⟩, hw⟩
  rw [hw]; clear hw w' HC
  cases x with
  | false =>
    go_wp2_with fail
    go_ret
    exact ⟨rfl, Below.refl _ _⟩
  | true =>
    go_wp2_with fail
    go_ret
    exact ⟨rfl, Below.refl _ _⟩

set_option maxRecDepth 100000 in
set_option maxHeartbeats 1000000 in
theorem law_main (a1 a2 : Option Addr) (n c1 c2 : Nat) (t : Nat → Int) (f : Nat → Nat) (w : World) (hn : n ≤ 65536) (ha1 : a1 = none → n = 0 ∧ c1 = 0) (ha2 : a2 = none → n = 0 ∧ c2 = 0)
    (h1 : VL w a1 n (fun j => .int .i64 (t j))) (h2 : VL w a2 n (fun j => .float .f64 (f j))) :
    Calls Tryf.prog 5 #[.slice a1 n c1, .slice a2 n c2] w fun e w' => e = .returned (.bool true) ∧ Below w.heap.size w w' := by
  have HC := bytes18 a1 a2 n n c1 c2 w
  have HU := up_any a1 n c1 t w (by omega) h1
  have d1 : decide ((131072 : Int) < (n : Int)) = false := decide_eq_false (by omega)
  have d3 : decide ((1048576 : Int) < 8 * (n : Int) + 8 * (n : Int)) = false := decide_eq_false (by omega)
  have H := hid (And.intro hn (And.intro ha1 (And.intro ha2 (And.intro h1 h2))))
  have hnb : n ≤ 131072 := by omega
  clear hn ha1 ha2 h1 h2
  go_enter Tryf.func5, Tryf.ntmps5
  go_wp2_with fail
  refine HC.mono ?_
  rintro e w' ⟨⟨x, rfl⟩, hw⟩
  rw [hw]; clear hw w' HC
  cases x with
  | false =>
    go_wp2_with fail
    go_ret
    exact ⟨rfl, Below.refl _ _⟩
  | true =>
    go_wp2_with fail
    refine HU.mono ?_
    rintro e w1 ⟨⟨x, rfl, hx⟩, k1, hw1⟩
    have HX := hid hx
    have B1 : Below w.heap.size w w1 := by rw [hw1]; exact below_drewN' (Below.refl _ _) k1
    have HB1 := hid B1
    clear hx hw1 HU B1
    cases x with
    | false =>
      go_wp2_with fail
      go_ret
      exact ⟨rfl, HB1.out⟩
    | true =>
      have HUP : Hid (∀ j, j + 1 < n → t j ≤ t (j + 1)) := HX.out rfl
      clear HX
      have HC1 := clone8 a1 n c1 t w1 (by omega) H.out.2.1 (H.out.2.2.2.1.below HB1.out)
      go_wp2_with fail
      refine HC1.mono ?_
      rintro e w2 ⟨a3, c3, rfl, H2⟩
      clear HC1
      have HC2 := clone19 a2 n c2 f w2 (by omega) H.out.2.2.1 ((H.out.2.2.2.2.below HB1.out).below H2.out.2)
      go_wp2_with fail
      refine HC2.mono ?_
      rintro e w3 ⟨a4, c4, rfl, H3⟩
      clear HC2
      go_wp2_with fail
      refine (new20 w3).mono ?_
      rintro e w4 ⟨b, rfl, H4⟩
      have HV : Hid (VL w4 a3 n (fun j => .int .i64 (t j)) ∧ VL w4 a4 n (fun j => .float .f64 (f j)) ∧ Below w.heap.size w w3) :=
        ⟨(H2.out.1.below H3.out.2).below H4.out.2, H3.out.1.below H4.out.2, Below.then HB1.out (Below.then H2.out.2 H3.out.2)⟩
      have HS0 : Hid (St w4 w3.heap.size b (.slice none 0 0) (.slice none 0 0) 0 0 t f ∧ Below w3.heap.size w3 w4) :=
        ⟨⟨H4.out.1.blk, H4.out.1.ge, World.ownsRow_nil _ _ _ _, World.ownsRow_nil _ _ _ _⟩, H4.out.2⟩
      have HVL : Hid (VL w3 a3 n (fun j => .int .i64 (t j)) ∧ VL w3 a4 n (fun j => .float .f64 (f j))) := ⟨H2.out.1.below H3.out.2, H3.out.1⟩
      clear H2 H3 H4
      go_wp2
      go_loopw [6] (fun i wr => ∃ k : Nat, k ≤ n ∧ i = .int .i64 k ∧ ∃ tv fv, Hid (St wr w3.heap.size b tv fv k k t f ∧ Below w3.heap.size w3 wr)) (fun i _ => n - (intOf i).toNat)
      case atStart => exact ⟨0, Nat.zero_le _, rfl, _, _, HS0⟩
      case round =>
        obtain ⟨k, hk, rfl, tv, fv, hS⟩ := hrel
        by_cases hlt : k < n
        · obtain ⟨b3, o3, rfl, x3⟩ := addr_of HVL.out.1 (by omega)
          obtain ⟨b4, o4, rfl, x4⟩ := addr_of HVL.out.2 (by omega)
          have g3 : wr.cell? ⟨b3, o3 + k, none⟩ = some (.int .i64 (t k)) := (hS.out.2.cell (World.block_lt_of_cell? _ _ (x3 k hlt))).trans (x3 k hlt)
          have g4 : wr.cell? ⟨b4, o4 + k, none⟩ = some (.float .f64 (f k)) := (hS.out.2.cell (World.block_lt_of_cell? _ _ (x4 k hlt))).trans (x4 k hlt)
          have l3 := World.block_lt_of_cell? _ _ (x3 k hlt)
          have l4 := World.block_lt_of_cell? _ _ (x4 k hlt)
          have HA := add21 w3.heap.size b k tv fv t f wr.drew ⟨hS.out.1.blk, hS.out.1.ge, hS.out.1.ot, hS.out.1.of⟩ (by omega) (fun j hj => by rw [← hj]; exact HUP.out j (by omega))
          obtain ⟨z1, hz1⟩ : ∃ z, z = t k := ⟨_, rfl⟩
          obtain ⟨z2, hz2⟩ : ∃ z, z = f k := ⟨_, rfl⟩
          rw [← hz1] at g3 HA
          rw [← hz2] at g4 HA
          have HLT := hid (And.intro l3 l4)
          have hlt' : (k : Int) < (n : Int) := by omega
          clear x3 x4 hz1 hz2 l3 l4
          go_wp2
          go_region_held3 (fun W => W.cell? ⟨b3, o3 + k, none⟩ = some (.int .i64 z1) ∧ W.cell? ⟨b4, o4 + k, none⟩ = some (.float .f64 z2)) (first | exact ⟨q3, q4⟩ | exact ⟨g3, g4⟩) (first
            | (go_at_call 21; refine HA.mono ?_; rintro e w5 ⟨rfl, tv', fv', H5⟩; have q3 := (H5.out.2.cell HLT.out.1).trans g3; have q4 := (H5.out.2.cell HLT.out.2).trans g4))
          go_wp2
          go_roundw
          case rel => exact ⟨k + 1, by omega, by go_num, _, _, H5.out.1, hS.out.2.trans ⟨H5.out.2.os, H5.out.2.tape, H5.out.2.output, H5.out.2.size, H5.out.2.block⟩⟩
          case measure => simp [intOf]; omega
        · obtain rfl : k = n := by omega
          have HT := state22 w3.heap.size b k tv fv t f wr hS.out.1 (by omega)
          go_wp2_with fail
          refine HT.mono ?_
          rintro e w6 ⟨a5, c5, a6, c6, rfl, H6⟩
          clear HT
          have B36 : Below w3.heap.size w3 w6 := Below.then hS.out.2 H6.out.2.2
          have E1 := ints_any a5 a3 k c5 c3 t w6 (by omega) H6.out.1 (HVL.out.1.below B36)
          have E2 : ∀ q, Calls Tryf.prog 23 #[.slice a6 k c6, .slice a4 k c4] (w6.drewN q) fun e w' => e = .returned (.bool true) ∧ ∃ j, w' = (w6.drewN q).drewN j := fun q =>
            floats_any a6 a4 k c6 c4 f (w6.drewN q) (by omega) (H6.out.2.1.drewN q) ((HVL.out.2.below B36).drewN q)
          have HE2 := hid E2
          have HB6 : Hid (Below w.heap.size w w6) := Below.then HV.out.2.2 B36
          clear E2 B36
          go_wp2_with fail
          refine E1.mono ?_
          rintro e w' ⟨rfl, q, hw⟩
          rw [hw]; clear hw w' E1
          have E2 := HE2.out q
          go_wp2_with fail
          refine E2.mono ?_
          rintro e w' ⟨rfl, q2, hw⟩
          rw [hw]; clear hw w' E2
          go_wp2
          go_ret
          exact ⟨rfl, below_drewN' HB6.out (q + q2)⟩

theorem law_any (a1 a2 : Option Addr) (n m c1 c2 : Nat) (t : Nat → Int) (f : Nat → Nat) (w : World) (ha1 : a1 = none → n = 0 ∧ c1 = 0) (ha2 : a2 = none → m = 0 ∧ c2 = 0)
    (h1 : VL w a1 n (fun j => .int .i64 (t j))) (h2 : VL w a2 m (fun j => .float .f64 (f j))) :
    Calls Tryf.prog 5 #[.slice a1 n c1, .slice a2 m c2] w fun e w' => e = .returned (.bool true) ∧ Below w.heap.size w w' := by
  by_cases he : n ≤ 131072 ∧ m ≤ 131072
  · by_cases hb : 8 * n + 8 * m ≤ 1048576
    · by_cases hnm : n = m
      · subst hnm
        exact law_main a1 a2 n c1 c2 t f w (by omega) ha1 ha2 h1 h2
      · exact law_len a1 a2 n m c1 c2 w he.1 he.2 hb hnm
    · exact law_big a1 a2 n m c1 c2 w he.1 he.2 hb
  · exact law_early a1 a2 n m c1 c2 w he
end Go.Proofs.Qxb6606004aFmt
