/-
  Seat b6608669aD: appendOutOfLine, three bytes and more. By an AI agent.
-/
import Derived.Test.Qxb6608669aDoorOut
namespace Go.Proofs.Qxb6608669aDoor
open Go.RowKit

variable {ao : Option Addr} {g o c : Nat} {cur : List Value}

theorem Tryd.slice22 : Tryd.prog.underlying 22 = some (.slice (Tryd.prog.elem 22)) := by kernel_rfl
theorem Tryd.sizeElem22 (W : World) : (sizeOf (Tryd.prog.elem 22)).run Tryd.prog W = .ok 1 W := by kernel_rfl

/-- 'dst[0:cap(dst)]' of the empty slice. -/
theorem run_room (ao : Option Addr) (c : Nat) (hc : c ≤ 9223372036854775807) (hs : ∀ a, ao = some a → ∃ b f, a = ⟨b, f, none⟩) (W : World) : (Instr.slice 22 (.slice ao 0 c) (some (.int .i64 0)) (some (.int .i64 (c : Int))) none).run Tryd.prog W = .ok (.slice ao c c) W := by
  have h := run_slice_lh (P := Tryd.prog) W 22 ao 0 c Tryd.slice22 .i64 .i64 0 (c : Int) (by omega) (by omega) (by omega)
  rw [h, Tryd.sizeElem22]
  simp only [Result.andThen, sliced]
  cases ao with
  | none => simp
  | some a =>
    obtain ⟨b, f, rfl⟩ := hs a rfl
    simp [Addr.add_lit]

set_option maxRecDepth 100000 in
set_option maxHeartbeats 1000000 in
theorem out_three (x : Nat) (w : World) (h0 : 16384 ≤ x) (h1 : x < 268435456) (hcm : Came0 w ao g o c cur) (h4 : 4 ≤ c) (hc : c ≤ 9223372036854775807) :
    Calls Tryd.prog 36 #[.slice ao 0 c, .int .u64 (x : Int)] w fun e w' => ∃ v, e = .returned v ∧ App w ao g o c cur w' v (ulen x) (uc x) := by
  have d0 : decide ((x : Int) < 128) = false := decide_eq_false (by omega)
  have d1 : decide ((x : Int) < 16384) = false := decide_eq_false (by omega)
  have d2 : decide ((x : Int) < 268435456) = true := decide_eq_true (by omega)
  have hao := hcm.addr (by omega)
  subst hao
  have R := hcm.row (by omega)
  have hf := hcm.fits (by omega)
  have hul : ulen x ≤ 4 := by have := ulen_cases x; omega
  have hsl := run_room (some ⟨g, o, none⟩) c hc hcm.shape
  have H0 := hid h0
  have H1 := hid h1
  have HC := hid hc
  have HF := hid hf
  have d3 : decide ((4 : Int) ≤ (c : Int)) = true := decide_eq_true (by omega)
  clear h0 h1 hc hf
  go_enter Tryd.func36, Tryd.ntmps36
  go_wp2_with fail
  refine (put3or4 g o c c x cur w H0.out H1.out R h4 (by have := HF.out; omega)).mono ?_
  rintro e w2 ⟨rfl, P⟩
  have hulc : (ulen x : Int) ≤ (c : Int) := by omega
  go_wp2
  go_ret
  exact ⟨_, rfl, app_put hcm (by omega) P⟩

set_option maxRecDepth 100000 in
set_option maxHeartbeats 1000000 in
theorem out_bytes (x : Nat) (w : World) (h0 : 16384 ≤ x) (h1 : x < 18446744073709551616) (hcm : Came0 w ao g o c cur) (h4 : ¬ (x < 268435456 ∧ 4 ≤ c)) (hc : c < 10) :
    Calls Tryd.prog 36 #[.slice ao 0 c, .int .u64 (x : Int)] w fun e w' => ∃ v, e = .returned v ∧ App w ao g o c cur w' v (ulen x) (uc x) := by
  have d0 : decide ((x : Int) < 128) = false := decide_eq_false (by omega)
  have d1 : decide ((x : Int) < 16384) = false := decide_eq_false (by omega)
  have d4 : decide ((c : Int) < 10) = true := decide_eq_true (by omega)
  have hsl := run_room ao c (by omega) hcm.shape
  have H1 := hid h1
  by_cases h28 : x < 268435456
  · have d2 : decide ((x : Int) < 268435456) = true := decide_eq_true (by omega)
    have d3 : decide ((4 : Int) ≤ (c : Int)) = false := decide_eq_false (by omega)
    clear h0 h1 h4 h28
    go_enter Tryd.func36, Tryd.ntmps36
    go_wp2_with fail
    refine (bytewise x w H1.out hcm).mono ?_
    rintro e w2 ⟨v, rfl, P⟩
    go_wp2
    go_ret
    exact ⟨_, rfl, P⟩
  · have d2 : decide ((x : Int) < 268435456) = false := decide_eq_false (by omega)
    clear h0 h1 h4 h28
    go_enter Tryd.func36, Tryd.ntmps36
    go_wp2_with fail
    refine (bytewise x w H1.out hcm).mono ?_
    rintro e w2 ⟨v, rfl, P⟩
    go_wp2
    go_ret
    exact ⟨_, rfl, P⟩

set_option maxRecDepth 100000 in
set_option maxHeartbeats 1000000 in
theorem out_nine (x : Nat) (w : World) (h0 : 72057594037927936 ≤ x) (h1 : x < 18446744073709551616) (hcm : Came0 w ao g o c cur) (h10 : 10 ≤ c) (hc : c ≤ 9223372036854775807) :
    Calls Tryd.prog 36 #[.slice ao 0 c, .int .u64 (x : Int)] w fun e w' => ∃ v, e = .returned v ∧ App w ao g o c cur w' v (ulen x) (uc x) := by
  have d0 : decide ((x : Int) < 128) = false := decide_eq_false (by omega)
  have d1 : decide ((x : Int) < 16384) = false := decide_eq_false (by omega)
  have d2 : decide ((x : Int) < 268435456) = false := decide_eq_false (by omega)
  have d4 : decide ((c : Int) < 10) = false := decide_eq_false (by omega)
  have d5 : decide ((72057594037927936 : Int) ≤ (x : Int)) = true := decide_eq_true (by omega)
  have hao := hcm.addr (by omega)
  subst hao
  have R := hcm.row (by omega)
  have hf := hcm.fits (by omega)
  have hul := ulen_le x
  have hsl := run_room (some ⟨g, o, none⟩) c hc hcm.shape
  have H0 := hid h0
  have H1 := hid h1
  have HC := hid hc
  have HF := hid hf
  clear h0 h1 hc hf
  go_enter Tryd.func36, Tryd.ntmps36
  go_wp2_with fail
  refine (putNine g o c c x cur w H0.out H1.out R h10 (by have := HF.out; omega)).mono ?_
  rintro e w2 ⟨rfl, P⟩
  have hulc : (ulen x : Int) ≤ (c : Int) := by omega
  go_wp2
  go_ret
  exact ⟨_, rfl, app_put hcm (by omega) P⟩

set_option maxRecDepth 100000 in
set_option maxHeartbeats 1000000 in
theorem out_mid (x : Nat) (w : World) (h0 : 268435456 ≤ x) (h1 : x < 72057594037927936) (hcm : Came0 w ao g o c cur) (h10 : 10 ≤ c) (hc : c ≤ 9223372036854775807) :
    Calls Tryd.prog 36 #[.slice ao 0 c, .int .u64 (x : Int)] w fun e w' => ∃ v, e = .returned v ∧ App w ao g o c cur w' v (ulen x) (uc x) := by
  have d0 : decide ((x : Int) < 128) = false := decide_eq_false (by omega)
  have d1 : decide ((x : Int) < 16384) = false := decide_eq_false (by omega)
  have d2 : decide ((x : Int) < 268435456) = false := decide_eq_false (by omega)
  have d4 : decide ((c : Int) < 10) = false := decide_eq_false (by omega)
  have d5 : decide ((72057594037927936 : Int) ≤ (x : Int)) = false := decide_eq_false (by omega)
  have hao := hcm.addr (by omega)
  subst hao
  have R := hcm.row (by omega)
  have hf := hcm.fits (by omega)
  have hul := ulen_le x
  have hsl := run_room (some ⟨g, o, none⟩) c hc hcm.shape
  obtain ⟨y, hy⟩ : ∃ y, y = x % 268435456 := ⟨_, rfl⟩
  obtain ⟨q, hq⟩ : ∃ q, q = x / 268435456 := ⟨_, rfl⟩
  have ey : bits .and .u64 (x : Int) 268435455 = (y : Int) := by
    have h1' : bits .and .u64 (x : Int) 268435455 = ((x &&& 268435455 : Nat) : Int) := u64_and_nat x 268435455 (by omega) (by decide)
    rw [h1', nat_mask28, hy]
  have eq : (x : Int) / 268435456 = (q : Int) := by omega
  have hy28 : y < 268435456 := by omega
  have hq28 : q < 268435456 := by omega
  have hq1 : 1 ≤ q := by omega
  have hlen : ulen x = 4 + ulen q := by rw [hq]; exact ulen_add4 x h0 (by omega)
  have huc : uc x = bc [((y % 128 + 128 : Nat) : Int), ((y / 128 % 128 + 128 : Nat) : Int), ((y / 16384 % 128 + 128 : Nat) : Int), ((y / 2097152 % 128 + 128 : Nat) : Int)] ++ uc q := by
    unfold uc ui
    rw [uv_add4 x h0 (by omega), ← hq, List.map_append, bc_append, show x % 128 = y % 128 by omega, show x / 128 % 128 = y / 128 % 128 by omega, show x / 16384 % 128 = y / 16384 % 128 by omega, show x / 2097152 % 128 = y / 2097152 % 128 by omega]
    rfl
  have HL := hid hlen
  have HU := hid huc
  have HQ28 := hid hq28
  have HC := hid hc
  have HF := hid hf
  have HY28 := hid hy28
  clear h0 h1 hc hf hlen huc hy hq hq28 hy28
  by_cases hq7 : q < 128
  · have d6 : decide ((q : Int) < 128) = true := decide_eq_true (by omega)
    go_enter Tryd.func36, Tryd.ntmps36
    go_wp2_with fail
    refine (putQuad g o c c y cur w HY28.out R (by omega) (by have := HF.out; omega)).mono ?_
    rintro e w2 ⟨rfl, P⟩
    have hl4 : (splice cur o (bc [((y % 128 + 128 : Nat) : Int), ((y / 128 % 128 + 128 : Nat) : Int), ((y / 16384 % 128 + 128 : Nat) : Int), ((y / 2097152 % 128 + 128 : Nat) : Int)])).length = cur.length := length_splice _ _ _ (by have := HF.out; simp [bc]; omega)
    obtain ⟨v4, c4⟩ := P.1.get (o + 4) (by have := HF.out; omega)
    have f4 := P.1.frozen (o + 4)
    have hc4 : (4 : Int) < (c : Int) := by omega
    have hc5 : (5 : Int) ≤ (c : Int) := by omega
    have HL4 := hid hl4
    clear hl4
    go_wp2
    go_ret
    have Q := put_store P (i := o + 4) (by rw [HL4.out]; have := HF.out; omega) (.int .u8 (q : Int))
    rw [splice_splice cur _ _ o 4 (by simp [bc]) (by simp [bc]) (by have := HF.out; simp; omega)] at Q
    have e5 : ulen x = 5 := by rw [HL.out]; have := ulen_cases q; omega
    have e6 : uc x = (bc [((y % 128 + 128 : Nat) : Int), ((y / 128 % 128 + 128 : Nat) : Int), ((y / 16384 % 128 + 128 : Nat) : Int), ((y / 2097152 % 128 + 128 : Nat) : Int)]).take 4 ++ [Value.int .u8 (q : Int)] := by
      rw [HU.out]
      unfold uc ui
      rw [uv1 q hq7]
      rfl
    rw [← e6] at Q
    have A := app_put hcm (by omega) Q
    rw [e5] at A
    rw [e5]
    exact ⟨_, rfl, A⟩
  · by_cases hq14 : q < 16384
    · have d6 : decide ((q : Int) < 128) = false := decide_eq_false (by omega)
      have d7 : decide ((q : Int) < 16384) = true := decide_eq_true (by omega)
      go_enter Tryd.func36, Tryd.ntmps36
      go_wp2_with fail
      refine (putQuad g o c c y cur w HY28.out R (by omega) (by have := HF.out; omega)).mono ?_
      rintro e w2 ⟨rfl, P⟩
      have hl4 : (splice cur o (bc [((y % 128 + 128 : Nat) : Int), ((y / 128 % 128 + 128 : Nat) : Int), ((y / 16384 % 128 + 128 : Nat) : Int), ((y / 2097152 % 128 + 128 : Nat) : Int)])).length = cur.length := length_splice _ _ _ (by have := HF.out; simp [bc]; omega)
      have HL4 := hid hl4
      clear hl4
      have hne : ¬ c = 4 := by omega
      have hc4 : (4 : Int) ≤ (c : Int) := by omega
      have hc6 : (6 : Int) ≤ (c : Int) := by omega
      go_wp2_with fail
      refine (putPair g (o + 4) (c - 4) (c - 4) q _ w2 (by omega) hq14 P.1 (by omega) (by rw [HL4.out]; have := HF.out; omega)).mono ?_
      rintro e w3 ⟨rfl, P2⟩
      go_wp2
      go_ret
      have e2 := ulen2 q (by omega) hq14
      have Q := P.trans P2
      rw [splice_splice cur _ _ o 4 (by simp [bc]) (by simp [bc]) (by have := HF.out; rw [uc_length, e2]; omega)] at Q
      have e5 : ulen x = 6 := by rw [HL.out, e2]
      have e6 : uc x = (bc [((y % 128 + 128 : Nat) : Int), ((y / 128 % 128 + 128 : Nat) : Int), ((y / 16384 % 128 + 128 : Nat) : Int), ((y / 2097152 % 128 + 128 : Nat) : Int)]).take 4 ++ uc q := by rw [HU.out]; rfl
      rw [← e6] at Q
      have A := app_put hcm (by omega) Q
      rw [e5] at A
      rw [e5]
      exact ⟨_, rfl, A⟩
    · have d6 : decide ((q : Int) < 128) = false := decide_eq_false (by omega)
      have d7 : decide ((q : Int) < 16384) = false := decide_eq_false (by omega)
      go_enter Tryd.func36, Tryd.ntmps36
      go_wp2_with fail
      refine (putQuad g o c c y cur w HY28.out R (by omega) (by have := HF.out; omega)).mono ?_
      rintro e w2 ⟨rfl, P⟩
      have hl4 : (splice cur o (bc [((y % 128 + 128 : Nat) : Int), ((y / 128 % 128 + 128 : Nat) : Int), ((y / 16384 % 128 + 128 : Nat) : Int), ((y / 2097152 % 128 + 128 : Nat) : Int)])).length = cur.length := length_splice _ _ _ (by have := HF.out; simp [bc]; omega)
      have HL4 := hid hl4
      clear hl4
      have hne : ¬ c = 4 := by omega
      have hc4 : (4 : Int) ≤ (c : Int) := by omega
      have hq4 : ulen q ≤ 4 := by have := ulen_cases q; have := HQ28.out; omega
      have hc8 : (4 : Int) + (ulen q : Int) ≤ (c : Int) := by omega
      go_wp2_with fail
      refine (put3or4 g (o + 4) (c - 4) (c - 4) q _ w2 (by omega) HQ28.out P.1 (by omega) (by rw [HL4.out]; have := HF.out; omega)).mono ?_
      rintro e w3 ⟨rfl, P2⟩
      go_wp2
      go_ret
      have Q := P.trans P2
      rw [splice_splice cur _ _ o 4 (by simp [bc]) (by simp [bc]) (by have := HF.out; rw [uc_length]; omega)] at Q
      have e6 : uc x = (bc [((y % 128 + 128 : Nat) : Int), ((y / 128 % 128 + 128 : Nat) : Int), ((y / 16384 % 128 + 128 : Nat) : Int), ((y / 2097152 % 128 + 128 : Nat) : Int)]).take 4 ++ uc q := by rw [HU.out]; rfl
      rw [← e6] at Q
      have A := app_put hcm (by rw [HL.out]; omega) Q
      rw [HL.out] at A
      rw [HL.out]
      exact ⟨_, rfl, A⟩

/-- appendOutOfLine, a value of two bytes or more, onto an empty slice. -/
theorem out_any (x : Nat) (w : World) (h0 : 128 ≤ x) (h1 : x < 18446744073709551616) (hcm : Came0 w ao g o c cur) (hc : c ≤ 9223372036854775807) :
    Calls Tryd.prog 36 #[.slice ao 0 c, .int .u64 (x : Int)] w fun e w' => ∃ v, e = .returned v ∧ App w ao g o c cur w' v (ulen x) (uc x) := by
  by_cases h14 : x < 16384
  · exact out_pair x w h0 h14 hcm
  · by_cases h28 : x < 268435456 ∧ 4 ≤ c
    · exact out_three x w (by omega) h28.1 hcm h28.2 hc
    · by_cases h10 : c < 10
      · exact out_bytes x w (by omega) h1 hcm h28 h10
      · by_cases h56 : x < 72057594037927936
        · exact out_mid x w (by omega) h56 hcm (by omega) hc
        · exact out_nine x w (by omega) h1 hcm (by omega) hc
end Go.Proofs.Qxb6608669aDoor
