/-
  Seat b6608669aD: appendBytewise, appendOutOfLine. By an AI agent.
-/
import Derived.Test.Qxb6608669aDoorApp
namespace Go.Proofs.Qxb6608669aDoor
open Go.RowKit

theorem uc_take (x m : Nat) (h : m < ulen x) : (uc x).take (m + 1) = (uc x).take m ++ [.int .u8 (ub x m : Int)] := by
  unfold uc ui bc
  rw [← List.map_take, ← List.map_take, uv_take x m h, List.map_append, List.map_append, List.map_take, List.map_take]
  rfl

theorem or128_bits (Y : Nat) : bits .or .u8 ((Y : Int) % 256) 128 = ((Y % 128 + 128 : Nat) : Int) := by
  have h1 : bits .or .u8 ((Y % 256 : Nat) : Int) 128 = ((Y % 256 ||| 128 : Nat) : Int) := u8_or_nat _ 128 (by omega) (by decide)
  rw [show (Y : Int) % 256 = ((Y % 256 : Nat) : Int) by omega, h1]
  congr 1
  rw [or_split 7 (Y % 256) 128]
  have e1 : 128 % 2 ^ 7 = 0 := by decide
  have e2 : 128 / 2 ^ 7 = 1 := by decide
  have e3 : Y % 256 % 2 ^ 7 = Y % 128 := by omega
  rw [e1, e2, e3, Nat.or_zero]
  rcases (by omega : Y % 256 / 2 ^ 7 = 0 ∨ Y % 256 / 2 ^ 7 = 1) with h | h <;> rw [h] <;> rfl

variable {ao : Option Addr} {g o c : Nat} {cur : List Value}

set_option maxRecDepth 100000 in
set_option maxHeartbeats 1000000 in
theorem bytewise (x : Nat) (w : World) (hx : x < 18446744073709551616) (hcm : Came0 w ao g o c cur) :
    Calls Tryd.prog 45 #[.slice ao 0 c, .int .u64 (x : Int)] w fun e w' => ∃ v, e = .returned v ∧ App w ao g o c cur w' v (ulen x) (uc x) := by
  have HX : Hid (x < 18446744073709551616) := hx
  clear hx
  go_enter Tryd.func45, Tryd.ntmps45
  go_wp2
  go_loopw [0, 1] (fun d y wr => ∃ m Y : Nat, m < ulen x ∧ Hid (Y = x / 128 ^ m) ∧ y = .int .u64 (Y : Int) ∧ App w ao g o c cur wr d m ((uc x).take m)) (fun _ y _ => (intOf y).toNat)
  case atStart => exact ⟨0, x, ulen_pos x, by unfold Hid; simp, rfl, hcm.start⟩
  case round =>
    obtain ⟨m, Y, hm, hY, rfl, hA⟩ := hrel
    have hm10 := ulen_le x
    have hYl : Y < 18446744073709551616 := by rw [hY.out]; exact Nat.lt_of_le_of_lt (Nat.div_le_self _ _) HX.out
    by_cases hlt : 128 ≤ Y
    · have hm1 : m + 1 < ulen x := (ulen_iff x m HX.out (by omega)).2 (by rw [← hY.out]; exact hlt)
      have hb : Hid _ := or128_bits Y
      have hYl' : Hid (Y < 18446744073709551616) := hYl
      clear hYl
      go_wp2_with (at_builtin; refine wpList_append_app rfl (.tmp 7) (.tmp 11) rfl hcm (hA.alloc _) (by omega) rfl ⟨wr.heap.size, 0, none⟩ 1 (.int .u8 (bits .or .u8 ((Y : Int) % 256) 128)) rfl (by simp) rfl ?_; intro v' w1 hA1)
      rw [hb.out] at hA1
      have e1 : ub x m = Y % 128 + 128 := by unfold ub; rw [if_pos hm1, ← hY.out]
      rw [← e1, ← uc_take x m hm] at hA1
      refine ⟨⟨m + 1, Y / 128, hm1, ?_, ?_, hA1⟩, ?_⟩
      · unfold Hid; rw [hY.out, Nat.pow_succ, ← Nat.div_div_eq_div_mul]
      · rw [Int.natCast_ediv]; rfl
      · simp only [intOf]; omega
    · have hm1 : ¬ m + 1 < ulen x := fun h => hlt (by rw [hY.out]; exact (ulen_iff x m HX.out (by omega)).1 h)
      have hYl' : Hid (Y < 18446744073709551616) := hYl
      have hy : Y < 128 := by omega
      clear hYl
      go_wp2_with (at_builtin; refine wpList_append_app rfl (.tmp 15) (.tmp 18) rfl hcm (hA.alloc _) (by omega) rfl ⟨wr.heap.size, 0, none⟩ 1 (.int .u8 (Y : Int)) rfl (by simp) rfl ?_; intro v' w1 hA1)
      go_ret
      refine ⟨_, rfl, ?_⟩
      have e1 : ub x m = Y := by unfold ub; rw [if_neg hm1, ← hY.out]; omega
      have e2 : m + 1 = ulen x := by omega
      rw [← e1, ← uc_take x m hm, e2, List.take_of_length_le (by rw [uc_length]; omega)] at hA1
      exact hA1

/-! ### appendOutOfLine -/
/-- Written in place. -/
theorem app_put {w w' : World} {x : Nat} (hcm : Came0 w ao g o c cur) (hc : ulen x ≤ c) (hP : Put w w' g (splice cur o (uc x))) : App w ao g o c cur w' (.slice ao (ulen x) c) (ulen x) (uc x) := by
  have hp := ulen_pos x
  have hf := hcm.fits (by omega)
  exact ⟨uc_length x, by unfold rowOf; rw [if_neg (by omega)]; exact hP.2, fun _ => ⟨_, hP.1, length_splice _ _ _ (by rw [uc_length]; omega), splice_take _ _ _ (by omega)⟩, .inl ⟨hc, rfl, fun _ => hP.1⟩⟩

theorem below_grown {w w' : World} (h : Below w.heap.size w w') : w.grownBy w' none := ⟨h.os, h.tape, h.output, h.size, fun k hk _ => h.block k hk⟩

theorem below_of_drew {w w' : World} (h : Below w.heap.size w.drew w') : Below w.heap.size w w' := ⟨h.os, h.tape, h.output, h.size, h.block⟩
theorem hid {p : Prop} (h : p) : Hid p := h

/-- Written in a new row. -/
theorem app_own {w w' : World} {v : Value} {x B : Nat} (hcm : Came0 w ao g o c cur) (hc : c < ulen x) (ho : w'.ownsRow B 5 1 v (ulen x) (uc x)) (hB : w.heap.size ≤ B) (hb : Below w.heap.size w w') : App w ao g o c cur w' v (ulen x) (uc x) := by
  refine ⟨uc_length x, grown_any (below_grown hb) _, fun h => ⟨cur, (hcm.row h).kept (below_grown hb) (by simp), rfl, rfl⟩, .inr ⟨hc, ho.1, ?_⟩⟩
  rcases ho.2 with h' | ⟨g', cap', cur', h1', h2', h3'⟩
  · exact .inl h'
  · exact .inr ⟨g', cap', cur', h1', by omega, h3'⟩

theorem pair_cells (x : Nat) (h0 : 128 ≤ x) (h1 : x < 16384) : Lib.byteCells (Lib.leBytes 2 (x % 128 + 128 + 256 * (x / 128))) = uc x := by
  unfold uc ui
  rw [le2, uv2 x h0 h1, show (x % 128 + 128 + 256 * (x / 128)) % 256 = x % 128 + 128 by omega, show (x % 128 + 128 + 256 * (x / 128)) / 256 % 256 = x / 128 by omega]
  rfl

theorem ulen2 (x : Nat) (h0 : 128 ≤ x) (h1 : x < 16384) : ulen x = 2 := by have := ulen_cases x; omega

set_option maxRecDepth 100000 in
set_option maxHeartbeats 1000000 in
theorem out_pair (x : Nat) (w : World) (h0 : 128 ≤ x) (h1 : x < 16384) (hcm : Came0 w ao g o c cur) :
    Calls Tryd.prog 36 #[.slice ao 0 c, .int .u64 (x : Int)] w fun e w' => ∃ v, e = .returned v ∧ App w ao g o c cur w' v (ulen x) (uc x) := by
  have e2 := ulen2 x h0 h1
  have d0 : decide ((x : Int) < 128) = false := decide_eq_false (by omega)
  have d1 : decide ((x : Int) < 16384) = true := decide_eq_true (by omega)
  have hpc := pair_cells x h0 h1
  have HP : Hid _ := hpc
  have H2 : Hid (ulen x = 2) := e2
  clear hpc e2
  cases ao with
  | none =>
    obtain rfl := hcm.nil rfl
    go_enter Tryd.func36, Tryd.ntmps36
    go_wp2
    go_region_with (first
      | (go_at_call 43; refine (pair_any x _ h1).mono ?_; rintro e w' ⟨rfl, hw⟩; rw [hw]; clear hw w')
      | (go_at_call 42; refine (app16_own w.heap.size 0 (x % 128 + 128 + 256 * (x / 128)) (by omega) (.slice none 0 0) [] w.drew (World.ownsRow_nil _ _ _ _) (Nat.le_refl _) (by omega)).mono ?_; rintro e w2 ⟨v2, rfl, P1, P2⟩))
    all_goals
      go_wp2
      go_ret
      have P3 := below_of_drew P2
      rw [List.nil_append, HP.out] at P1
      rw [← H2.out] at P1
      have P4 : w2.ownsRow w.heap.size 5 1 v2 (ulen x) (uc x) := by simpa using P1
      exact ⟨v2, rfl, app_own hcm (by rw [H2.out]; omega) P4 (Nat.le_refl _) P3⟩
  | some a =>
    obtain ⟨b, f, rfl⟩ := hcm.shape a rfl
    have hsp : 0 + 2 ≤ c → ∀ j, j < 2 → (w.drew.cell? ⟨b, f + 0 + j, none⟩).isSome = true ∧ w.drew.frozen? ⟨b, f + 0 + j, none⟩ = false := by
      intro h2 j hj
      have ha := Option.some.inj (hcm.addr (by omega))
      simp only [Addr.mk.injEq, and_true] at ha
      obtain ⟨rfl, rfl⟩ := ha
      have R := hcm.row (by omega)
      have hf := hcm.fits (by omega)
      obtain ⟨y, hy⟩ := R.get (f + 0 + j) (by omega)
      exact ⟨by show (w.cell? _).isSome = true; rw [hy]; rfl, R.frozen _⟩
    have hC := app16_arg b f 0 c (x % 128 + 128 + 256 * (x / 128)) (by omega) [] w.drew rfl (by intro j u hu; simp at hu) hsp (by omega)
    have hC2 : Calls Tryd.prog 42 #[.agg #[], .slice (some ⟨b, f, none⟩) 0 c, .int .u16 ((x % 128 + 128 + 256 * (x / 128) : Nat) : Int)] w.drew fun e w' => ∃ v, e = .returned v ∧ App w (some ⟨b, f, none⟩) g o c cur w' v (ulen x) (uc x) := by
      refine hC.mono ?_
      rintro e w2 (⟨hr, rfl, rfl⟩ | ⟨hr, v', rfl, q1, q2⟩)
      · have ha := Option.some.inj (hcm.addr (by omega))
        simp only [Addr.mk.injEq, and_true] at ha
        obtain ⟨rfl, rfl⟩ := ha
        have R := hcm.row (by omega)
        have hf := hcm.fits (by omega)
        rw [HP.out, Nat.add_zero]
        have hl : (uc x).length = 2 := by rw [uc_length, H2.out]
        have hP : Put w (((w.drew.alloc (.cells #[] 71)).alloc (.cells (uc x).toArray 5)).setCells b f (uc x)) b (splice cur f (uc x)) := by
          obtain ⟨r1, r2⟩ := row_setCells b (uc x) cur f ((w.drew.alloc (.cells #[] 71)).alloc (.cells (uc x).toArray 5)) (Row.alloc (Row.alloc (w := w.drew) R _) _) (by omega)
          have r3 := Lib.grownBy_trans (Lib.grownBy_trans (World.grownBy_alloc w.drew (.cells #[] 71) (some b)) (World.grownBy_alloc _ (.cells (uc x).toArray 5) (some b))) r2
          exact ⟨r1, ⟨r3.os, r3.tape, r3.output, r3.size, r3.block⟩⟩
        refine ⟨_, rfl, ?_⟩
        have hA := app_put hcm (by rw [H2.out]; omega) hP
        rw [H2.out] at hA
        rw [H2.out]
        exact hA
      · rw [List.nil_append, HP.out] at q1
        have q3 : w2.ownsRow (w.drew.heap.size + 2) 5 1 v' (ulen x) (uc x) := by rw [H2.out]; simpa using q1
        exact ⟨v', rfl, app_own hcm (by rw [H2.out]; omega) q3 (by show w.heap.size ≤ w.heap.size + 2; omega) (below_of_drew q2)⟩
    have HC := hid hC2
    clear hC hsp hC2
    go_enter Tryd.func36, Tryd.ntmps36
    go_wp2
    go_region_with (first
      | (go_at_call 43; refine (pair_any x _ h1).mono ?_; rintro e w' ⟨rfl, hw⟩; rw [hw]; clear hw w')
      | (go_at_call 42; refine HC.out.mono ?_; rintro e w2 ⟨v2, rfl, P1⟩))
    all_goals
      go_wp2
      go_ret
      exact ⟨v2, rfl, P1⟩
end Go.Proofs.Qxb6608669aDoor
