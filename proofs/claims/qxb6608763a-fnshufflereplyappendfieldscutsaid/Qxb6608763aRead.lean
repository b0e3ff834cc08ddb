/-
  Seat b6608763a: readHead, expectHead, expectText. By an AI agent.
-/
import Derived.Test.Qxb6608763aHead
namespace Go.Proofs.Qxb6608763a
open Go.RowKit

theorem results_tmp4 {fn : Func} {t u v x : Tmp} (h : fn.results = #[.tmp t, .tmp u, .tmp v, .tmp x]) (tmps : Array Value) (P : Program) (w : World) :
    (results fn tmps).run P w = .ok (.tuple #[tmps.getD t undef, tmps.getD u undef, tmps.getD v undef, tmps.getD x undef]) w := by
  simp [results, h]

theorem shr5 (m v : Nat) (hv : v < 32) : ((m * 32 + v : Nat) : Int) / 32 = (m : Int) := by omega
theorem and31 (m v : Nat) (hm : m < 8) (hv : v < 32) : bits .and .u8 ((m * 32 + v : Nat) : Int) 31 = (v : Int) := by
  have h1 : bits .and .u8 ((m * 32 + v : Nat) : Int) 31 = ((m * 32 + v &&& 31 : Nat) : Int) := u8_and_nat _ 31 (by omega) (by decide)
  rw [h1]
  have : m * 32 + v &&& 31 = (m * 32 + v) % 2 ^ 5 := Nat.and_two_pow_sub_one_eq_mod (m * 32 + v) 5
  rw [this]
  omega

set_option maxRecDepth 100000 in
set_option maxHeartbeats 400000 in
theorem read1 (b o n c i m v : Nat) (w : World) (hi : i < n) (hn : n ≤ 4194304) (hm : m < 8) (hv : v < 24) (h0 : w.cell? ⟨b, o + i, none⟩ = some (.int .u8 ((m * 32 + v : Nat) : Int))) :
    Calls Try.prog 24 #[.slice (some ⟨b, o, none⟩) n c, .int .i64 (i : Int)] w fun e w' => e = .returned (.tuple #[.int .u8 (m : Int), .int .u64 (v : Int), .int .i64 ((i + 1 : Nat) : Int), .bool true]) ∧ w' = w := by
  have e1 := shr5 m v (by omega)
  have e2 := and31 m v hm (by omega)
  obtain ⟨y, hy⟩ : ∃ y : Nat, y = m * 32 + v := ⟨_, rfl⟩
  rw [← hy] at e1 e2 h0
  have hyl : y < 256 := by omega
  have d0 : decide ((v : Int) < 24) = true := decide_eq_true (by omega)
  have hi' : (i : Int) < (n : Int) := by omega
  have hw : IntKind.u64.wrap (v : Int) = (v : Int) := by rw [IntKind.wrap_u64]; omega
  clear hy hm hv
  go_enter Try.func24, Try.ntmps24
  go_wp2
  refine bodyPost_ret (results_tmp4 rfl _ _ _) rfl ?_
  refine ⟨?_, rfl⟩
  rw [show ((i + 1 : Nat) : Int) = (i : Int) + 1 by omega]
  rfl

set_option maxRecDepth 4000 in
theorem or_shl8 (A C : Nat) (hC : C < 256) (h : A * 256 + C < 18446744073709551616) : bits .or .u64 (IntKind.u64.wrap ((A : Int) * 256)) (C : Int) = ((A * 256 + C : Nat) : Int) := by
  have ha : A * 256 < 18446744073709551616 := Nat.lt_of_le_of_lt (Nat.le_add_right _ _) h
  have hc : C < 18446744073709551616 := Nat.lt_trans hC (by decide)
  have h1 := u64_or_nat (A * 256) C ha hc
  have h0 : IntKind.u64.wrap ((A : Int) * 256) = ((A * 256 : Nat) : Int) := by rw [IntKind.wrap_u64]; omega
  rw [h0, h1]
  have := Nat.two_pow_add_eq_or_of_lt (i := 8) (b := C) (by omega) A
  rw [show A * 256 = 2 ^ 8 * A by omega, this]

theorem next_byte (v k J : Nat) (hJ : J < k) : v / 256 ^ (k - J) * 256 + v / 256 ^ (k - 1 - J) % 256 = v / 256 ^ (k - (J + 1)) := by
  have e : v / 256 ^ (k - J) = v / 256 ^ (k - (J + 1)) / 256 := by
    rw [Nat.div_div_eq_div_mul, ← Nat.pow_succ]
    congr 2
    omega
  rw [e, show k - 1 - J = k - (J + 1) by omega]
  omega

set_option maxRecDepth 100000 in
set_option maxHeartbeats 400000 in
theorem read2 (b o n c i m v : Nat) (w : World) (hn : n ≤ 4194304) (hm : m < 8) (hfit : i + 1 + 1 ≤ n) (hv : 24 ≤ v) (hv1 : v < 256) (h0 : w.cell? ⟨b, o + i, none⟩ = some (.int .u8 ((m * 32 + 24 : Nat) : Int)))
    (hb : ∀ j, j < 1 → w.cell? ⟨b, o + (i + 1 + j), none⟩ = some (.int .u8 ((v / 256 ^ (1 - 1 - j) % 256 : Nat) : Int))) :
    Calls Try.prog 24 #[.slice (some ⟨b, o, none⟩) n c, .int .i64 (i : Int)] w fun e w' => e = .returned (.tuple #[.int .u8 (m : Int), .int .u64 (v : Int), .int .i64 ((i + 1 + 1 : Nat) : Int), .bool true]) ∧ w' = w := by
  have e1 := shr5 m 24 (by omega)
  have e2 : bits .and .u8 ((m * 32 + 24 : Nat) : Int) 31 = 24 := and31 m 24 hm (by omega)
  obtain ⟨y, hy⟩ : ∃ y : Nat, y = m * 32 + 24 := ⟨_, rfl⟩
  rw [← hy] at e1 e2 h0
  have hyl : y < 256 := by omega
  have hi' : (i : Int) < (n : Int) := by omega
  have d3 : decide ((n : Int) - ((i : Int) + 1) < 1) = false := decide_eq_false (by omega)
  have HB := hid hb
  have HV := hid (And.intro hv (And.intro hv1 (show v < 18446744073709551616 by omega)))
  clear hy hm hb hv hv1
  go_enter Try.func24, Try.ntmps24
  go_wp2
  go_loop [12, 13] (fun acc j => ∃ J A : Nat, J ≤ 1 ∧ j = .int .i64 (J : Int) ∧ acc = .int .u64 (A : Int) ∧ Hid (A = v / 256 ^ (1 - J))) (fun _ j => 1 - (intOf j).toNat)
  case atStart =>
    refine ⟨0, 0, Nat.zero_le _, rfl, rfl, ?_⟩
    unfold Hid
    rw [Nat.div_eq_of_lt (by have := HV.out; omega)]
  case round =>
    obtain ⟨J, A, hJ, rfl, rfl, hA⟩ := hrel
    by_cases hlt : J < 1
    · have g := HB.out J hlt
      obtain ⟨C, hC⟩ : ∃ C, C = v / 256 ^ (1 - 1 - J) % 256 := ⟨_, rfl⟩
      rw [← hC] at g
      have hC2 : C < 256 := by omega
      have hnx : A * 256 + C = v / 256 ^ (1 - (J + 1)) := by rw [hA.out, hC]; exact next_byte v 1 J hlt
      have hor := or_shl8 A C hC2 (by rw [hnx]; exact Nat.lt_of_le_of_lt (Nat.div_le_self _ _) HV.out.2.2)
      obtain ⟨A2, hA2⟩ : ∃ A2, A2 = A * 256 + C := ⟨_, rfl⟩
      rw [← hA2] at hor
      have HN := hid (hA2.trans hnx)
      clear hnx hC hA2 hA
      have hlt' : (J : Int) < 1 := by omega
      have hJn : (i : Int) + 1 + (J : Int) < (n : Int) := by omega
      go_wp2
      refine ⟨⟨J + 1, A2, by omega, by go_num, rfl, HN⟩, ?_⟩
      simp [intOf]
      omega
    · obtain rfl : J = 1 := by omega
      obtain rfl : A = v := by rw [hA.out]; simp
      have d4 : decide ((A : Int) < 24) = false := decide_eq_false (by have := HV.out; omega)
      clear hA
      go_wp2
      refine bodyPost_ret (results_tmp4 rfl _ _ _) rfl ?_
      exact ⟨rfl, rfl⟩

set_option maxRecDepth 100000 in
set_option maxHeartbeats 400000 in
theorem read3 (b o n c i m v : Nat) (w : World) (hn : n ≤ 4194304) (hm : m < 8) (hfit : i + 1 + 2 ≤ n) (hv : 256 ≤ v) (hv1 : v < 65536) (h0 : w.cell? ⟨b, o + i, none⟩ = some (.int .u8 ((m * 32 + 25 : Nat) : Int)))
    (hb : ∀ j, j < 2 → w.cell? ⟨b, o + (i + 1 + j), none⟩ = some (.int .u8 ((v / 256 ^ (2 - 1 - j) % 256 : Nat) : Int))) :
    Calls Try.prog 24 #[.slice (some ⟨b, o, none⟩) n c, .int .i64 (i : Int)] w fun e w' => e = .returned (.tuple #[.int .u8 (m : Int), .int .u64 (v : Int), .int .i64 ((i + 1 + 2 : Nat) : Int), .bool true]) ∧ w' = w := by
  have e1 := shr5 m 25 (by omega)
  have e2 : bits .and .u8 ((m * 32 + 25 : Nat) : Int) 31 = 25 := and31 m 25 hm (by omega)
  obtain ⟨y, hy⟩ : ∃ y : Nat, y = m * 32 + 25 := ⟨_, rfl⟩
  rw [← hy] at e1 e2 h0
  have hyl : y < 256 := by omega
  have hi' : (i : Int) < (n : Int) := by omega
  have d3 : decide ((n : Int) - ((i : Int) + 1) < 2) = false := decide_eq_false (by omega)
  have HB := hid hb
  have HV := hid (And.intro hv (And.intro hv1 (show v < 18446744073709551616 by omega)))
  clear hy hm hb hv hv1
  go_enter Try.func24, Try.ntmps24
  go_wp2
  go_loop [12, 13] (fun acc j => ∃ J A : Nat, J ≤ 2 ∧ j = .int .i64 (J : Int) ∧ acc = .int .u64 (A : Int) ∧ Hid (A = v / 256 ^ (2 - J))) (fun _ j => 2 - (intOf j).toNat)
  case atStart =>
    refine ⟨0, 0, Nat.zero_le _, rfl, rfl, ?_⟩
    unfold Hid
    rw [Nat.div_eq_of_lt (by have := HV.out; omega)]
  case round =>
    obtain ⟨J, A, hJ, rfl, rfl, hA⟩ := hrel
    by_cases hlt : J < 2
    · have g := HB.out J hlt
      obtain ⟨C, hC⟩ : ∃ C, C = v / 256 ^ (2 - 1 - J) % 256 := ⟨_, rfl⟩
      rw [← hC] at g
      have hC2 : C < 256 := by omega
      have hnx : A * 256 + C = v / 256 ^ (2 - (J + 1)) := by rw [hA.out, hC]; exact next_byte v 2 J hlt
      have hor := or_shl8 A C hC2 (by rw [hnx]; exact Nat.lt_of_le_of_lt (Nat.div_le_self _ _) HV.out.2.2)
      obtain ⟨A2, hA2⟩ : ∃ A2, A2 = A * 256 + C := ⟨_, rfl⟩
      rw [← hA2] at hor
      have HN := hid (hA2.trans hnx)
      clear hnx hC hA2 hA
      have hlt' : (J : Int) < 2 := by omega
      have hJn : (i : Int) + 1 + (J : Int) < (n : Int) := by omega
      go_wp2
      refine ⟨⟨J + 1, A2, by omega, by go_num, rfl, HN⟩, ?_⟩
      simp [intOf]
      omega
    · obtain rfl : J = 2 := by omega
      obtain rfl : A = v := by rw [hA.out]; simp
      have d4 : decide ((A : Int) < 256) = false := decide_eq_false (by have := HV.out; omega)
      clear hA
      go_wp2
      refine bodyPost_ret (results_tmp4 rfl _ _ _) rfl ?_
      exact ⟨rfl, rfl⟩

set_option maxRecDepth 100000 in
set_option maxHeartbeats 400000 in
theorem read4 (b o n c i m v : Nat) (w : World) (hn : n ≤ 4194304) (hm : m < 8) (hfit : i + 1 + 4 ≤ n) (hv : 65536 ≤ v) (hv1 : v < 4294967296) (h0 : w.cell? ⟨b, o + i, none⟩ = some (.int .u8 ((m * 32 + 26 : Nat) : Int)))
    (hb : ∀ j, j < 4 → w.cell? ⟨b, o + (i + 1 + j), none⟩ = some (.int .u8 ((v / 256 ^ (4 - 1 - j) % 256 : Nat) : Int))) :
    Calls Try.prog 24 #[.slice (some ⟨b, o, none⟩) n c, .int .i64 (i : Int)] w fun e w' => e = .returned (.tuple #[.int .u8 (m : Int), .int .u64 (v : Int), .int .i64 ((i + 1 + 4 : Nat) : Int), .bool true]) ∧ w' = w := by
  have e1 := shr5 m 26 (by omega)
  have e2 : bits .and .u8 ((m * 32 + 26 : Nat) : Int) 31 = 26 := and31 m 26 hm (by omega)
  obtain ⟨y, hy⟩ : ∃ y : Nat, y = m * 32 + 26 := ⟨_, rfl⟩
  rw [← hy] at e1 e2 h0
  have hyl : y < 256 := by omega
  have hi' : (i : Int) < (n : Int) := by omega
  have d3 : decide ((n : Int) - ((i : Int) + 1) < 4) = false := decide_eq_false (by omega)
  have HB := hid hb
  have HV := hid (And.intro hv (And.intro hv1 (show v < 18446744073709551616 by omega)))
  clear hy hm hb hv hv1
  go_enter Try.func24, Try.ntmps24
  go_wp2
  go_loop [12, 13] (fun acc j => ∃ J A : Nat, J ≤ 4 ∧ j = .int .i64 (J : Int) ∧ acc = .int .u64 (A : Int) ∧ Hid (A = v / 256 ^ (4 - J))) (fun _ j => 4 - (intOf j).toNat)
  case atStart =>
    refine ⟨0, 0, Nat.zero_le _, rfl, rfl, ?_⟩
    unfold Hid
    rw [Nat.div_eq_of_lt (by have := HV.out; omega)]
  case round =>
    obtain ⟨J, A, hJ, rfl, rfl, hA⟩ := hrel
    by_cases hlt : J < 4
    · have g := HB.out J hlt
      obtain ⟨C, hC⟩ : ∃ C, C = v / 256 ^ (4 - 1 - J) % 256 := ⟨_, rfl⟩
      rw [← hC] at g
      have hC2 : C < 256 := by omega
      have hnx : A * 256 + C = v / 256 ^ (4 - (J + 1)) := by rw [hA.out, hC]; exact next_byte v 4 J hlt
      have hor := or_shl8 A C hC2 (by rw [hnx]; exact Nat.lt_of_le_of_lt (Nat.div_le_self _ _) HV.out.2.2)
      obtain ⟨A2, hA2⟩ : ∃ A2, A2 = A * 256 + C := ⟨_, rfl⟩
      rw [← hA2] at hor
      have HN := hid (hA2.trans hnx)
      clear hnx hC hA2 hA
      have hlt' : (J : Int) < 4 := by omega
      have hJn : (i : Int) + 1 + (J : Int) < (n : Int) := by omega
      go_wp2
      refine ⟨⟨J + 1, A2, by omega, by go_num, rfl, HN⟩, ?_⟩
      simp [intOf]
      omega
    · obtain rfl : J = 4 := by omega
      obtain rfl : A = v := by rw [hA.out]; simp
      have d4 : decide ((A : Int) < 65536) = false := decide_eq_false (by have := HV.out; omega)
      clear hA
      go_wp2
      refine bodyPost_ret (results_tmp4 rfl _ _ _) rfl ?_
      exact ⟨rfl, rfl⟩

set_option maxRecDepth 100000 in
set_option maxHeartbeats 400000 in
theorem read5 (b o n c i m v : Nat) (w : World) (hn : n ≤ 4194304) (hm : m < 8) (hfit : i + 1 + 8 ≤ n) (hv : 4294967296 ≤ v) (hv1 : v < 18446744073709551616) (h0 : w.cell? ⟨b, o + i, none⟩ = some (.int .u8 ((m * 32 + 27 : Nat) : Int)))
    (hb : ∀ j, j < 8 → w.cell? ⟨b, o + (i + 1 + j), none⟩ = some (.int .u8 ((v / 256 ^ (8 - 1 - j) % 256 : Nat) : Int))) :
    Calls Try.prog 24 #[.slice (some ⟨b, o, none⟩) n c, .int .i64 (i : Int)] w fun e w' => e = .returned (.tuple #[.int .u8 (m : Int), .int .u64 (v : Int), .int .i64 ((i + 1 + 8 : Nat) : Int), .bool true]) ∧ w' = w := by
  have e1 := shr5 m 27 (by omega)
  have e2 : bits .and .u8 ((m * 32 + 27 : Nat) : Int) 31 = 27 := and31 m 27 hm (by omega)
  obtain ⟨y, hy⟩ : ∃ y : Nat, y = m * 32 + 27 := ⟨_, rfl⟩
  rw [← hy] at e1 e2 h0
  have hyl : y < 256 := by omega
  have hi' : (i : Int) < (n : Int) := by omega
  have d3 : decide ((n : Int) - ((i : Int) + 1) < 8) = false := decide_eq_false (by omega)
  have HB := hid hb
  have HV := hid (And.intro hv (And.intro hv1 (show v < 18446744073709551616 by omega)))
  clear hy hm hb hv hv1
  go_enter Try.func24, Try.ntmps24
  go_wp2
  go_loop [12, 13] (fun acc j => ∃ J A : Nat, J ≤ 8 ∧ j = .int .i64 (J : Int) ∧ acc = .int .u64 (A : Int) ∧ Hid (A = v / 256 ^ (8 - J))) (fun _ j => 8 - (intOf j).toNat)
  case atStart =>
    refine ⟨0, 0, Nat.zero_le _, rfl, rfl, ?_⟩
    unfold Hid
    rw [Nat.div_eq_of_lt (by have := HV.out; omega)]
  case round =>
    obtain ⟨J, A, hJ, rfl, rfl, hA⟩ := hrel
    by_cases hlt : J < 8
    · have g := HB.out J hlt
      obtain ⟨C, hC⟩ : ∃ C, C = v / 256 ^ (8 - 1 - J) % 256 := ⟨_, rfl⟩
      rw [← hC] at g
      have hC2 : C < 256 := by omega
      have hnx : A * 256 + C = v / 256 ^ (8 - (J + 1)) := by rw [hA.out, hC]; exact next_byte v 8 J hlt
      have hor := or_shl8 A C hC2 (by rw [hnx]; exact Nat.lt_of_le_of_lt (Nat.div_le_self _ _) HV.out.2.2)
      obtain ⟨A2, hA2⟩ : ∃ A2, A2 = A * 256 + C := ⟨_, rfl⟩
      rw [← hA2] at hor
      have HN := hid (hA2.trans hnx)
      clear hnx hC hA2 hA
      have hlt' : (J : Int) < 8 := by omega
      have hJn : (i : Int) + 1 + (J : Int) < (n : Int) := by omega
      go_wp2
      refine ⟨⟨J + 1, A2, by omega, by go_num, rfl, HN⟩, ?_⟩
      simp [intOf]
      omega
    · obtain rfl : J = 8 := by omega
      obtain rfl : A = v := by rw [hA.out]; simp
      have d4 : decide ((A : Int) < 4294967296) = false := decide_eq_false (by have := HV.out; omega)
      clear hA
      go_wp2
      refine bodyPost_ret (results_tmp4 rfl _ _ _) rfl ?_
      exact ⟨rfl, rfl⟩

end Go.Proofs.Qxb6608763a
