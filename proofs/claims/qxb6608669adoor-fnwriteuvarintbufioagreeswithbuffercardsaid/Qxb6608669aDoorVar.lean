/-
  Seat b6608669aD: zzIsVarintOf. By an AI agent.
-/
import Derived.Test.Qxb6608669aDoorBuf
namespace Go.Proofs.Qxb6608669aDoor
open Go.RowKit

/-- What byte k is, as the checker asks it. -/
theorem byte_facts (x k : Nat) (hx : x < 18446744073709551616) (hk : k < ulen x) :
    ub x k % 128 = x / 128 ^ k % 128 ∧ ub x k < 256 ∧ (k + 1 < ulen x → 128 ≤ ub x k) ∧ (¬ k + 1 < ulen x → ub x k < 128 ∧ (0 < k → ub x k ≠ 0) ∧ (k = 9 → ub x k ≤ 1)) := by
  have h10 := ulen_le x
  refine ⟨by unfold ub; split <;> omega, ub_lt x k, fun h => by unfold ub; rw [if_pos h]; omega, fun h => ?_⟩
  have hlt : ¬ 128 ≤ x / 128 ^ k := fun h' => h ((ulen_iff x k hx (by omega)).2 h')
  have e : ub x k = x / 128 ^ k := by
    unfold ub; rw [if_neg h]
    generalize x / 128 ^ k = Y at *
    omega
  rw [e]
  refine ⟨by omega, fun h0 => ?_, fun h9 => ?_⟩
  · have h1 := (ulen_iff x (k - 1) hx (by omega)).1 (by omega)
    have e2 : x / 128 ^ k = x / 128 ^ (k - 1) / 128 := by
      rw [Nat.div_div_eq_div_mul, ← Nat.pow_succ, show (k - 1).succ = k by omega]
    rw [e2]; omega
  · subst h9
    simp only [Nat.reducePow]
    omega

theorem lt_pow (x : Nat) (hx : x < 18446744073709551616) : x < 128 ^ ulen x := by
  rcases ulen_cases x with h | h | h | h | h | h | h | h | h | h
  all_goals
    first | (obtain ⟨h1, h2, h3⟩ := h; rw [h3]; simp only [Nat.reducePow]; omega) | (obtain ⟨h1, h3⟩ := h; rw [h3]; simp only [Nat.reducePow]; omega)

/-- One group more. -/
theorem or_step (x k C V : Nat) (hx : x < 18446744073709551616) (hC : C < 256) (h1 : C % 128 = x / 128 ^ k % 128) (hV : V = x % 128 ^ k) :
    bits .or .u64 (V : Int) (IntKind.u64.wrap (IntKind.u64.wrap (bits .and .u8 (C : Int) 127) * 2 ^ (7 * k))) = ((x % 128 ^ (k + 1) : Nat) : Int) := by
  have e1 : bits .and .u8 (C : Int) 127 = ((C % 128 : Nat) : Int) := by
    have h : bits .and .u8 (C : Int) 127 = ((C &&& 127 : Nat) : Int) := u8_and_nat C 127 hC (by decide)
    rw [h, nat_mask7]
  have ep : (2 : Nat) ^ (7 * k) = 128 ^ k := by rw [Nat.pow_mul]
  have hpos : 0 < 128 ^ k := Nat.pow_pos (by decide)
  have hN : C % 128 * 128 ^ k ≤ x := by
    rw [h1]
    exact Nat.le_trans (Nat.mul_le_mul_right _ (Nat.mod_le _ _)) (Nat.div_mul_le_self x (128 ^ k))
  have hVl : V < 128 ^ k := by rw [hV]; exact Nat.mod_lt _ hpos
  have hVx : V ≤ x := by rw [hV]; exact Nat.mod_le _ _
  have e2 : IntKind.u64.wrap ((C % 128 : Nat) : Int) = ((C % 128 : Nat) : Int) := by rw [IntKind.wrap_u64]; omega
  have e3 : (((C % 128 : Nat) : Int) * 2 ^ (7 * k)) = ((C % 128 * 128 ^ k : Nat) : Int) := by rw [← ep]; simp
  have e4 : IntKind.u64.wrap ((C % 128 * 128 ^ k : Nat) : Int) = ((C % 128 * 128 ^ k : Nat) : Int) := by rw [IntKind.wrap_u64]; omega
  rw [e1, e2, e3, e4, u64_or_nat V _ (by omega) (by omega), Nat.or_comm, nat_join (7 * k) _ V (by rw [ep]; exact Nat.mul_mod_left _ _) (by rw [ep]; exact hVl)]
  congr 1
  rw [hV, h1, Nat.pow_succ, Nat.mod_mul]
  rw [Nat.mul_comm, Nat.add_comm]

set_option maxRecDepth 100000 in
set_option maxHeartbeats 4000000 in
theorem isvar_any (b off L c x : Nat) (w : World) (hx : x < 18446744073709551616) (hL : L = ulen x) (hc : ∀ j, j < L → w.cell? ⟨b, off + j, none⟩ = some (.int .u8 (ub x j : Int))) :
    Calls Tryd.prog 12 #[.slice (some ⟨b, off, none⟩) L c, .int .u64 (x : Int)] w fun e w' => e = .returned (.bool true) ∧ w' = w := by
  have hp := ulen_pos x
  have h10 := ulen_le x
  rw [← hL] at hp h10
  have HX := hid hx
  have HL := hid hL
  clear hx hL
  have g1 : decide ((L : Int) < 1) = false := decide_eq_false (by omega)
  go_enter Tryd.func12, Tryd.ntmps12
  go_wp2
  go_loop [6, 7] (fun v i => ∃ k : Nat, k ≤ L ∧ i = .int .i64 k ∧ v = .int .u64 ((x % 128 ^ k : Nat) : Int)) (fun _ i => L - (intOf i).toNat)
  case atStart => exact ⟨0, Nat.zero_le _, rfl, by simp [Nat.mod_one]⟩
  case round =>
    obtain ⟨k, hk, rfl, rfl⟩ := hrel
    by_cases hlt : k < L
    · have hcell := hc k hlt
      obtain ⟨b1, b2, b3, b4⟩ := byte_facts x k HX.out (by rw [← HL.out]; exact hlt)
      rw [← HL.out] at b3 b4
      obtain ⟨C, hC⟩ : ∃ C, C = ub x k := ⟨_, rfl⟩
      rw [← hC] at hcell b1 b2 b3 b4
      have B1 := hid b1
      obtain ⟨V, hV⟩ : ∃ V, V = x % 128 ^ k := ⟨_, rfl⟩
      rw [← hV]
      have HV := hid hV
      clear b1 hC hV hc
      by_cases hlast : k + 1 < L
      · have hlast' : (k : Int) < (L : Int) - 1 := by omega
        have hC1 : (128 : Int) ≤ (C : Int) := by have := b3 hlast; omega
        clear b3 b4
        have hk9 : k ≤ 9 := by omega
        go_wp2
        refine ⟨⟨k + 1, by omega, by go_num, ?_⟩, by simp [intOf]; omega⟩
        rw [or_step x k C V HX.out b2 B1.out HV.out]
      · have hlast' : (L : Int) - 1 ≤ (k : Int) := by omega
        obtain ⟨c1, c2, c3⟩ := b4 hlast
        have hC1 : (C : Int) < 128 := by omega
        have hk9 : k ≤ 9 := by omega
        have C2 := hid c2
        have C3 := hid c3
        clear b3 b4 c2 c3
        by_cases h0 : k = 0
        · subst h0
          rw [Nat.add_zero] at hcell
          have hs := hid (or_step x 0 C V HX.out b2 B1.out HV.out)
          by_cases hC0 : C = 0
          · subst hC0
            go_wp2
            refine ⟨⟨1, by omega, rfl, ?_⟩, by simp [intOf]; omega⟩
            have hs' := hs.out
            simp only [Nat.mul_zero, Int.pow_zero, Int.mul_one, Nat.zero_add, Int.natCast_zero] at hs'
            rw [hs']
          · have hz : ((C : Int) == 0) = false := by simp; omega
            go_wp2
            refine ⟨⟨1, by omega, rfl, ?_⟩, by simp [intOf]; omega⟩
            have hs' := hs.out
            simp only [Nat.mul_zero, Int.pow_zero, Int.mul_one, Nat.zero_add] at hs'
            rw [hs']
        · by_cases h9 : k = 9
          · subst h9
            have hz : ((C : Int) == 0) = false := by have := C2.out (by omega); simp; omega
            have hC9 : (C : Int) ≤ 1 := by have := C3.out rfl; omega
            have hs := hid (or_step x 9 C V HX.out b2 B1.out HV.out)
            go_wp2
            refine ⟨⟨10, by omega, rfl, ?_⟩, by simp [intOf]; omega⟩
            have hs' := hs.out
            simp only [Nat.reduceMul, Int.reducePow, Nat.reduceAdd] at hs'
            rw [hs']
          · have hz : ((C : Int) == 0) = false := by have := C2.out (by omega); simp; omega
            have hk9' : ((k : Int) == 9) = false := by simp; omega
            go_wp2
            refine ⟨⟨k + 1, by omega, by go_num, ?_⟩, by simp [intOf]; omega⟩
            rw [or_step x k C V HX.out b2 B1.out HV.out]
    · have hkL : k = L := by omega
      have hxx : x % 128 ^ k = x := Nat.mod_eq_of_lt (by rw [hkL, HL.out]; exact lt_pow x HX.out)
      rw [hxx]
      clear hxx
      go_wp2
      go_ret
      exact ⟨by simp, rfl⟩

/-! ### zzIsWriteOf, zzConcat -/
theorem Lies.right {w : World} {b off : Nat} {zs ys : List Int} (h : ∀ j, j < (zs ++ ys).length → w.cell? ⟨b, off + j, none⟩ = some (.int .u8 ((zs ++ ys).getD j 0))) : ∀ j, j < ys.length → w.cell? ⟨b, off + zs.length + j, none⟩ = some (.int .u8 (ys.getD j 0)) := fun j hj => by
  rw [Nat.add_assoc, h (zs.length + j) (by simp; omega)]
  simp only [List.getD]
  rw [List.getElem?_append_right (by omega), show zs.length + j - zs.length = j by omega]

theorem ui_getD (x j : Nat) (h : j < ulen x) : (ui x).getD j 0 = (ub x j : Int) := by
  have := uv_get x j h
  simp [ui, List.getD, this]

set_option maxRecDepth 100000 in
set_option maxHeartbeats 1000000 in
theorem iswrite_any (a1 a2 : Option Addr) (m n c1 c2 x : Nat) (zs : List Int) (w : World) (hx : x < 18446744073709551616) (hz : zs.length = n) (hm : n + ulen x = m) (hn : n ≤ 4194304) (hmc : m ≤ c1) (h1 : Lies w a1 (zs ++ ui x)) (h2 : Lies w a2 zs) :
    Calls Tryd.prog 11 #[.slice a1 m c1, .slice a2 n c2, .int .i64 (ulen x : Int), .int .u64 (x : Int)] w fun e w' => e = .returned (.bool true) ∧ ∃ k, w' = w.drewN k := by
  have hp := ulen_pos x
  obtain ⟨b1, o1, rfl, g1⟩ := addr_of h1 (by rw [List.length_append, ui_length]; omega)
  have g2 := Lies.right g1
  have HX := hid hx
  have HZ := hid hz
  have HM := hid hm
  have H1 := hid h1
  have H2 := hid h2
  have hnm : (n : Int) ≤ (m : Int) := by omega
  have hne : ¬ c1 = n := by omega
  have hl : ((ulen x : Int) == ((m - n : Nat) : Int)) = true := by rw [beq_iff_eq]; omega
  clear hx hz hm h1 h2 g1
  go_enter Tryd.func11, Tryd.ntmps11
  go_wp2_with fail
  refine (prefix_any (some ⟨b1, o1, none⟩) a2 m n c1 c2 zs (ui x) w HZ.out (by rw [ui_length, HZ.out]; exact HM.out) hn H1.out H2.out).mono ?_
  rintro e w1 ⟨rfl, k1, hw1⟩
  rw [hw1]; clear hw1 w1
  go_wp2_with fail
  refine (isvar_any b1 (o1 + n) (m - n) (c1 - n) x _ HX.out (by have := HM.out; omega) ?_).mono ?_
  · intro j hj
    have hj' : j < ulen x := by have := HM.out; omega
    have := g2 j (by rw [ui_length]; exact hj')
    rw [HZ.out, ui_getD x j hj'] at this
    exact this
  rintro e w2 ⟨rfl, hw2⟩
  rw [hw2]; clear hw2 w2
  go_wp2
  go_ret
  exact ⟨rfl, _, rfl⟩

set_option maxRecDepth 100000 in
set_option maxHeartbeats 1000000 in
theorem concat_some (x1 x2 : Addr) (n1 n2 c1 c2 : Nat) (z1 z2 : List Int) (w : World) (h1 : z1.length = n1) (h2 : z2.length = n2) (hn1 : n1 ≤ 4194304) (hn2 : n2 ≤ 4194304) (hp : 0 < n2) (l1 : Lies w (some x1) z1) (l2 : Lies w (some x2) z2) :
    Calls Tryd.prog 14 #[.slice (some x1) n1 c1, .slice (some x2) n2 c2] w fun e w' => e = .returned (.slice (some ⟨w.heap.size, 0, none⟩) (n1 + n2) (n1 + n2)) ∧ w' = w.alloc (.cells (bc (z1 ++ z2)).toArray 5) := by
  have hmk := run_make_row' (P := Tryd.prog) 22 5 (.int .u8 0) 1 Tryd.underlying22 Tryd.info5 rfl .i64 .i64 (n1 + n2) (by omega) (by omega)
  rw [show ((n1 + n2 : Nat) : Int) = (n1 : Int) + (n2 : Int) by omega] at hmk
  have hcp1 := run_copy_row (P := Tryd.prog) (w.alloc (.cells (madeCells #[.int .u8 0] (n1 + n2)) 5)) 22 22 3 5 w.heap.size 0 (n1 + n2) (n1 + n2) x1 n1 c1 (madeCells #[.int .u8 0] (n1 + n2)) 5 (bc z1) Tryd.underlying22 Tryd.size5
    (alloc_at _ _) (by rw [bc_length, h1]; exact (Nat.min_eq_left (by omega)).symm) (l1.src_alloc _) (by rw [bc_length, h1, size_madeCells]; omega) (bc_one _)
  have hd : (madeCells #[Value.int .u8 0] (n1 + n2)).toList.drop (0 + (bc z1).length) = List.replicate n2 (Value.int .u8 0) := by
    rw [toList_madeCells_one]; simp [bc, h1]
  rw [setRow_alloc, hd, List.take_zero, List.nil_append, bc_length, h1] at hcp1
  have hcp2 := run_copy_row (P := Tryd.prog) (w.alloc (.cells (bc z1 ++ List.replicate n2 (Value.int .u8 0)).toArray 5)) 22 22 3 5 w.heap.size n1 n2 n2 x2 n2 c2 (bc z1 ++ List.replicate n2 (Value.int .u8 0)).toArray 5 (bc z2) Tryd.underlying22 Tryd.size5
    (alloc_at _ _) (by rw [bc_length, h2]; exact (Nat.min_self _).symm) (l2.src_alloc _) (by simp [bc, h1, h2]) (bc_one _)
  have hd2 : (bc z1 ++ List.replicate n2 (Value.int .u8 0)).toArray.toList.take n1 = bc z1 := by
    rw [List.toList_toArray, List.take_left' (by rw [bc_length, h1])]
  have hd3 : (bc z1 ++ List.replicate n2 (Value.int .u8 0)).toArray.toList.drop (n1 + (bc z2).length) = [] := by
    rw [List.toList_toArray]; apply List.drop_eq_nil_of_le; simp [bc, h1, h2]
  rw [setRow_alloc, hd2, hd3, List.append_nil, ← bc_append, bc_length, h2] at hcp2
  have hne : ¬ n1 + n2 = n1 := by omega
  clear hd hd2 hd3 h1 h2
  go_enter Tryd.func14, Tryd.ntmps14
  go_wp2
  go_ret
  exact ⟨rfl, rfl⟩
end Go.Proofs.Qxb6608669aDoor
