/-
  Seat b6608669aD: writeBytewise, AvailableBuffer. By an AI agent.
-/
import Derived.Test.Qxb6608669aDoorByte
namespace Go.Proofs.Qxb6608669aDoor
open Go.RowKit

variable {B bw gb bb S : Nat} {row : Option Nat} {held out : List Value} {w : World}

set_option maxRecDepth 100000 in
set_option maxHeartbeats 1000000 in
theorem wise_any (x : Nat) {tot : List Value} (hx : x < 18446744073709551616) (h : Has B bw gb bb S tot w) (hlim : tot.length + 10 ≤ 4194304) (hBs : B ≤ w.heap.size) :
    Calls Tryd.prog 37 #[.pointer (some ⟨bw, 0, none⟩), .int .u64 (x : Int)] w fun e w' => e = .returned (.tuple #[.int .i64 (ulen x : Int), .nilIface]) ∧ Has B bw gb bb S (tot ++ uc x) w' ∧ Below B w w' := by
  have HX : Hid (x < 18446744073709551616) := hx
  have HL := hid hlim
  have HB := hid hBs
  have HH := hid h
  clear hx hlim hBs h
  go_enter Tryd.func37, Tryd.ntmps37
  go_wp2
  go_loopw [1, 6] (fun y n wr => ∃ m Y : Nat, m < ulen x ∧ Hid (Y = x / 128 ^ m) ∧ y = .int .u64 (Y : Int) ∧ n = .int .i64 (m : Int) ∧ Has B bw gb bb S (tot ++ (uc x).take m) wr ∧ Below B w wr) (fun y _ _ => (intOf y).toNat)
  case atStart => exact ⟨0, x, ulen_pos x, by unfold Hid; simp, rfl, rfl, by simpa using HH.out, Below.refl _ _⟩
  case round =>
    obtain ⟨m, Y, hm, hY, rfl, rfl, hA, hbl⟩ := hrel
    have hm10 := ulen_le x
    have hYl : Y < 18446744073709551616 := by rw [hY.out]; exact Nat.lt_of_le_of_lt (Nat.div_le_self _ _) HX.out
    have hlm : (tot ++ (uc x).take m).length ≤ 4194304 := by have := HL.out; have := uc_length x; simp; omega
    have hbs : B ≤ wr.heap.size := Nat.le_trans HB.out hbl.size
    have HBL := hid hbl
    clear hbl
    by_cases hlt : 128 ≤ Y
    · have hm1 : m + 1 < ulen x := (ulen_iff x m HX.out (by omega)).2 (by rw [← hY.out]; exact hlt)
      have hb : bits .or .u8 ((Y : Int) % 256) 128 = (Y : Int) % 128 + 128 := by rw [or128_bits Y]; omega
      have hYl' : Hid (Y < 18446744073709551616) := hYl
      have HC := byte_any ((Y : Int) % 128 + 128) hA hlm hbs
      clear hYl hlm hbs hA
      go_wp2_with fail
      refine HC.mono ?_
      rintro e w1 ⟨rfl, hA1, hbl1⟩
      have HA1 := hid hA1
      have HBL1 := hid hbl1
      clear hA1 hbl1 HC hb
      go_wp2
      have e1 : ub x m = Y % 128 + 128 := by unfold ub; rw [if_pos hm1, ← hY.out]
      refine ⟨⟨m + 1, Y / 128, hm1, ?_, ?_, ?_, ?_, HBL.out.trans HBL1.out⟩, ?_⟩
      · unfold Hid; rw [hY.out, Nat.pow_succ, ← Nat.div_div_eq_div_mul]
      · rw [Int.natCast_ediv]; rfl
      · simp
      · have := HA1.out
        rw [show (Y : Int) % 128 + 128 = (ub x m : Int) by omega, List.append_assoc, ← uc_take x m hm] at this
        exact this
      · simp only [intOf]; omega
    · have hm1 : ¬ m + 1 < ulen x := fun h => hlt (by rw [hY.out]; exact (ulen_iff x m HX.out (by omega)).1 h)
      have hYl' : Hid (Y < 18446744073709551616) := hYl
      have hy : Y < 128 := by omega
      have HC := byte_any (Y : Int) hA hlm hbs
      clear hYl hlm hbs hA
      go_wp2_with fail
      refine HC.mono ?_
      rintro e w1 ⟨rfl, hA1, hbl1⟩
      have HA1 := hid hA1
      have HBL1 := hid hbl1
      clear hA1 hbl1 HC
      go_wp2
      go_ret2
      have e1 : ub x m = Y := by unfold ub; rw [if_neg hm1, ← hY.out]; omega
      have e2 : m + 1 = ulen x := by omega
      refine ⟨?_, ?_, HBL.out.trans HBL1.out⟩
      · rw [← e2]
        simp
      · have := HA1.out
        rw [← e1, List.append_assoc, ← uc_take x m hm, e2, List.take_of_length_le (by rw [uc_length]; omega)] at this
        exact this

/-- AvailableBuffer. -/
theorem avbuf (h : Bw B bw gb bb S row held out w) : Calls Tryd.prog 35 #[.pointer (some ⟨bw, 0, none⟩)] w fun e w' => (∃ o, e = .returned (.slice (some ⟨gb, o, none⟩) 0 (S - held.length)) ∧ (held.length < S → o = held.length)) ∧ Bw B bw gb bb S row held out w' ∧ Below B w w' := by
  have c1 := h.c1
  have c2 := h.c2
  have hf := h.fits
  have hl := h.lim
  have HH := hid h
  obtain ⟨n, hn⟩ : ∃ n, n = held.length := ⟨_, rfl⟩
  rw [← hn] at c2 hf
  rw [← hn]
  have HN := hid hn
  clear h hn
  go_enter Tryd.func35, Tryd.ntmps35
  go_wp2
  go_quiet (fail)
  go_wp2
  · go_ret
    refine ⟨by simp, ?_, ?_⟩
    · rw [h] at HH
      exact HH.out.drewN nq
    · exact ⟨rfl, rfl, rfl, Nat.le_refl _, fun _ _ => rfl⟩
  · go_ret
    refine ⟨⟨n, rfl, fun _ => rfl⟩, HH.out.drewN nq, ?_⟩
    exact ⟨rfl, rfl, rfl, Nat.le_refl _, fun _ _ => rfl⟩
end Go.Proofs.Qxb6608669aDoor
