/-
  Seat b6606004aF: the bounds, nondecreasing, the comparisons. By an AI agent.
-/
import Derived.Test.Qxb6606004aFmtBase
namespace Go.Proofs.Qxb6606004aFmt
open Go.RowKit

/-- A bool came back. -/
def IsB (e : Ending) : Prop := ∃ x : Bool, e = .returned (.bool x)

theorem bytes18 (a1 a2 : Option Addr) (n m c1 c2 : Nat) (w : World) :
    Calls Tryf.prog 18 #[.slice a1 n c1, .slice a2 m c2] w fun e w' => IsB e ∧ w' = w := by
  by_cases h1 : n ≤ 1048576
  · have d1 : ¬ (1048576 : Int) < (n : Int) := by omega
    by_cases h2 : m ≤ 1048576
    · have d2 : ¬ (1048576 : Int) < (m : Int) := by omega
      by_cases h3 : n + m ≤ 1048576
      · have d3 : ¬ (1048576 : Int) < (n : Int) + (m : Int) := by omega
        go_enter Tryf.func18, Tryf.ntmps18
        go_wp2
        go_ret
        exact ⟨⟨_, rfl⟩, rfl⟩
      · have d3 : (1048576 : Int) < (n : Int) + (m : Int) := by omega
        go_enter Tryf.func18, Tryf.ntmps18
        go_wp2
        go_ret
        exact ⟨⟨_, rfl⟩, rfl⟩
    · have d2 : (1048576 : Int) < (m : Int) := by omega
      go_enter Tryf.func18, Tryf.ntmps18
      go_wp2
      go_ret
      exact ⟨⟨_, rfl⟩, rfl⟩
  · have d1 : (1048576 : Int) < (n : Int) := by omega
    go_enter Tryf.func18, Tryf.ntmps18
    go_wp2
    go_ret
    exact ⟨⟨_, rfl⟩, rfl⟩

/-! ### nondecreasing -/
def Up (e : Ending) (n : Nat) (t : Nat → Int) : Prop := ∃ x : Bool, e = .returned (.bool x) ∧ (x = true → ∀ j, j + 1 < n → t j ≤ t (j + 1))

set_option maxRecDepth 100000 in
set_option maxHeartbeats 400000 in
theorem up_any (a : Option Addr) (n c : Nat) (t : Nat → Int) (w : World) (hn : n ≤ 1048576) (h : VL w a n (fun j => .int .i64 (t j))) :
    Calls Tryf.prog 17 #[.slice a n c] w fun e w' => Up e n t ∧ ∃ k, w' = w.drewN k := by
  have HX := hid h
  clear h
  go_enter Tryf.func17, Tryf.ntmps17
  go_wp2
  go_loopw [3] (fun i wr => (∃ k : Nat, 1 ≤ k ∧ k ≤ n + 1 ∧ i = .int .i64 k ∧ Hid (∀ j, j + 1 < k → j + 1 < n → t j ≤ t (j + 1))) ∧ ∃ m, wr = w.drewN m) (fun i _ => n + 1 - (intOf i).toNat)
  case atStart => exact ⟨⟨1, by omega, by omega, rfl, fun j hj => by omega⟩, 0, rfl⟩
  case round =>
    obtain ⟨⟨k, hk0, hk, rfl, hall⟩, m, rfl⟩ := hrel
    by_cases hlt : k < n
    · obtain ⟨b, o, rfl, gx⟩ := addr_of HX.out (by omega)
      obtain ⟨q, rfl⟩ : ∃ q, k = q + 1 := ⟨k - 1, by omega⟩
      have g1 := gx q (by omega)
      have g2 := gx (q + 1) hlt
      have hlt' : ((q + 1 : Nat) : Int) < (n : Int) := by omega
      have hlt2 : (q : Int) < (n : Int) := by omega
      have HA : t q ≤ t (q + 1) → Hid (∀ j, j + 1 < q + 1 + 1 → j + 1 < n → t j ≤ t (j + 1)) := fun he j hj hj' => by
        by_cases hjk : j = q
        · rw [hjk]; exact he
        · exact hall.out j (by omega) hj'
      obtain ⟨z1, hz1⟩ : ∃ z, z = t q := ⟨_, rfl⟩
      obtain ⟨z2, hz2⟩ : ∃ z, z = t (q + 1) := ⟨_, rfl⟩
      rw [← hz1, ← hz2] at HA
      simp only [← hz1] at g1
      simp only [← hz2] at g2
      have HAA := hid HA
      clear gx hz1 hz2 HA hk0
      by_cases hz : z1 ≤ z2
      · have hz' : ¬ z2 < z1 := by omega
        have HB := HAA.out hz
        go_wp2
        go_quiet (fail)
        go_wp2
        go_roundw
        case rel => exact ⟨⟨q + 1 + 1, by omega, by omega, by go_num, HB⟩, _, rfl⟩
        case measure => simp [intOf]; omega
      · have hz' : z2 < z1 := by omega
        go_wp2
        go_quiet (fail)
        go_wp2
        go_ret
        exact ⟨⟨false, rfl, fun h => by cases h⟩, _, World.drewN_drewN ..⟩
    · have hlt' : ¬ (k : Int) < (n : Int) := by omega
      go_wp2
      go_ret
      exact ⟨⟨true, rfl, fun _ j hj => hall.out j (by omega) hj⟩, m, rfl⟩

/-! ### equalI64 -/
set_option maxHeartbeats 400000 in
theorem ints_any (a1 a2 : Option Addr) (n c1 c2 : Nat) (t : Nat → Int) (w : World) (hn : n ≤ 1048576) (h1 : VL w a1 n (fun j => .int .i64 (t j))) (h2 : VL w a2 n (fun j => .int .i64 (t j))) :
    Calls Tryf.prog 14 #[.slice a1 n c1, .slice a2 n c2] w fun e w' => e = .returned (.bool true) ∧ ∃ k, w' = w.drewN k := by
  have H := hid (And.intro h1 h2)
  clear h1 h2
  go_enter Tryf.func14, Tryf.ntmps14
  go_wp2
  go_loopw [5] (fun i wr => (∃ k : Nat, k ≤ n ∧ i = .int .i64 k) ∧ ∃ m, wr = w.drewN m) (fun i _ => n - (intOf i).toNat)
  case atStart => exact ⟨⟨0, Nat.zero_le _, rfl⟩, 0, rfl⟩
  case round =>
    obtain ⟨⟨k, hk, rfl⟩, m, rfl⟩ := hrel
    by_cases hlt : k < n
    · obtain ⟨b1, o1, rfl, x1⟩ := addr_of H.out.1 (by omega)
      obtain ⟨b2, o2, rfl, x2⟩ := addr_of H.out.2 (by omega)
      have g1 := x1 k hlt
      have g2 := x2 k hlt
      obtain ⟨z, hz⟩ : ∃ z, z = t k := ⟨_, rfl⟩
      simp only [← hz] at g1 g2
      have hlt' : (k : Int) < (n : Int) := by omega
      clear x1 x2 hz
      go_wp2
      go_quiet (fail)
      go_wp2
      go_roundw
      case rel => exact ⟨⟨k + 1, by omega, by go_num⟩, _, rfl⟩
      case measure => simp [intOf]; omega
    · go_wp2
      go_ret
      exact ⟨rfl, m, rfl⟩

/-! ### sameFloat -/
theorem order_self (x : Nat) : FloatKind.f64.format.order x x = none ∨ FloatKind.f64.format.order x x = some .eq := by
  unfold Ieee.Format.order
  generalize FloatKind.f64.format.read x = d
  cases d with
  | nan s f => exact .inl rfl
  | infinity s => right; simp [Ieee.Datum.order]
  | number s m i => right; simp [Ieee.Datum.order]

theorem inf_self (s : Bool) : FloatKind.f64.format.order (FloatKind.f64.format.write (.infinity s)) (FloatKind.f64.format.write (.infinity s)) = some .eq := by
  cases s <;> decide +kernel

theorem read_one : FloatKind.f64.format.read 4607182418800017408 = .number false 4503599627370496 (-52) := by decide +kernel
theorem read_zero : FloatKind.f64.format.read 0 = .number false 0 (-1074) := by decide +kernel

theorem quo_zero (x : Nat) (h : FloatKind.f64.format.order x 0 = some .eq) : ∃ r, floatBits .quo .f64 4607182418800017408 x = some r ∧ FloatKind.f64.format.order r r = some .eq := by
  unfold Ieee.Format.order at h
  rw [read_zero] at h
  unfold floatBits Ieee.Format.div
  simp only
  rw [read_one]
  generalize FloatKind.f64.format.read x = d at h
  cases d with
  | nan s f => simp [Ieee.Datum.order] at h
  | infinity s => cases s <;> simp [Ieee.Datum.order] at h
  | number s m i =>
    have hm : m = 0 := by
      have h' : Ieee.signed s m (i - min i (-1074)).toNat = Ieee.signed false 0 (-1074 - min i (-1074)).toNat := by
        have h1 := Option.some.inj h
        exact Int.compare_eq_eq.1 h1
      generalize (i - min i (-1074)).toNat = k at h'
      have h2 : Ieee.signed false 0 (-1074 - min i (-1074)).toNat = 0 := by simp [Ieee.signed]
      rw [h2] at h'
      have h3 : m <<< k = 0 := by
        unfold Ieee.signed at h'
        cases s
        · simp only [Bool.false_eq_true, if_false] at h'
          omega
        · simp only [if_true] at h'
          omega
      rw [Nat.shiftLeft_eq] at h3
      rcases Nat.mul_eq_zero.1 h3 with h4 | h4
      · exact h4
      · exact absurd h4 (Nat.pos_iff_ne_zero.1 (Nat.two_pow_pos k))
    subst hm
    refine ⟨_, rfl, inf_self _⟩

set_option maxHeartbeats 400000 in
theorem same_any (x : Nat) (w : World) :
    Calls Tryf.prog 29 #[.float .f64 x, .float .f64 x] w fun e w' => e = .returned (.bool true) ∧ w' = w := by
  by_cases hx : FloatKind.f64.format.order x x = some .eq
  · by_cases h0 : FloatKind.f64.format.order x 0 = some .eq
    · obtain ⟨r, hr, hrr⟩ := quo_zero x h0
      have hq := fun W : World => run_float_arith (P := Tryf.prog) W .quo 43 .f64 4607182418800017408 x r hr
      clear hr
      go_enter Tryf.func29, Tryf.ntmps29
      go_wp2
      go_ret
      exact ⟨by simp, rfl⟩
    · go_enter Tryf.func29, Tryf.ntmps29
      go_wp2
      go_ret
      exact ⟨by simp, rfl⟩
  · have hx' : (FloatKind.f64.format.order x x != some .eq) = true := by simp [hx]
    clear hx
    go_enter Tryf.func29, Tryf.ntmps29
    go_wp2
    go_ret
    exact ⟨by simp, rfl⟩

/-! ### equalF64 -/
set_option maxHeartbeats 400000 in
theorem floats_any (a1 a2 : Option Addr) (n c1 c2 : Nat) (t : Nat → Nat) (w : World) (hn : n ≤ 1048576) (h1 : VL w a1 n (fun j => .float .f64 (t j))) (h2 : VL w a2 n (fun j => .float .f64 (t j))) :
    Calls Tryf.prog 23 #[.slice a1 n c1, .slice a2 n c2] w fun e w' => e = .returned (.bool true) ∧ ∃ k, w' = w.drewN k := by
  have H := hid (And.intro h1 h2)
  clear h1 h2
  go_enter Tryf.func23, Tryf.ntmps23
  go_wp2
  go_loopw [5] (fun i wr => (∃ k : Nat, k ≤ n ∧ i = .int .i64 k) ∧ ∃ m, wr = w.drewN m) (fun i _ => n - (intOf i).toNat)
  case atStart => exact ⟨⟨0, Nat.zero_le _, rfl⟩, 0, rfl⟩
  case round =>
    obtain ⟨⟨k, hk, rfl⟩, m, hwr⟩ := hrel
    have HW := hid hwr
    clear hwr
    by_cases hlt : k < n
    · obtain ⟨b1, o1, rfl, x1⟩ := addr_of H.out.1 (by omega)
      obtain ⟨b2, o2, rfl, x2⟩ := addr_of H.out.2 (by omega)
      have g1 : wr.cell? ⟨b1, o1 + k, none⟩ = some (.float .f64 (t k)) := by rw [HW.out]; exact x1 k hlt
      have g2 : wr.cell? ⟨b2, o2 + k, none⟩ = some (.float .f64 (t k)) := by rw [HW.out]; exact x2 k hlt
      obtain ⟨z, hz⟩ : ∃ z, z = t k := ⟨_, rfl⟩
      rw [← hz] at g1 g2
      have hlt' : (k : Int) < (n : Int) := by omega
      clear x1 x2 hz
      go_wp2
      go_quiet (first | (go_at_call 29; refine Calls.quiet_of_same (same_any _ _)))
      go_wp2
      go_roundw
      case rel => exact ⟨⟨k + 1, by omega, by go_num⟩, m + nq, by rw [HW.out, World.drewN_drewN]⟩
      case measure => simp [intOf]; omega
    · go_wp2
      go_ret
      exact ⟨rfl, m, HW.out⟩
end Go.Proofs.Qxb6606004aFmt
