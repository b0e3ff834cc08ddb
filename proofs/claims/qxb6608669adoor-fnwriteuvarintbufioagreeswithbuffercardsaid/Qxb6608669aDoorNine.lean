/-
  Seat b6608669aD: putNineOrTen. By an AI agent.
-/
import Derived.Test.Qxb6608669aDoorPuts
namespace Go.Proofs.Qxb6608669aDoor
open Go.RowKit

/-- The first eight bytes of a varint of nine or ten. -/
def eight (x : Nat) : List Int :=
  [((x % 128 + 128 : Nat) : Int), ((x / 128 % 128 + 128 : Nat) : Int), ((x / 16384 % 128 + 128 : Nat) : Int), ((x / 2097152 % 128 + 128 : Nat) : Int),
   ((x / 268435456 % 128 + 128 : Nat) : Int), ((x / 34359738368 % 128 + 128 : Nat) : Int), ((x / 4398046511104 % 128 + 128 : Nat) : Int), ((x / 562949953421312 % 128 + 128 : Nat) : Int)]

theorem oct_bytes (x : Nat) : Lib.byteCells (Lib.leBytes 8 (octw x)) = bc (eight x) := by
  have b0 : octw x % 256 = x % 128 + 128 := by unfold octw quadw; omega
  have b1 : octw x / 256 % 256 = x / 128 % 128 + 128 := by unfold octw quadw; omega
  have b2 : octw x / 256 / 256 % 256 = x / 16384 % 128 + 128 := by unfold octw quadw; omega
  have b3 : octw x / 256 / 256 / 256 % 256 = x / 2097152 % 128 + 128 := by unfold octw quadw; omega
  have hq := quadw_lt (x % 268435456)
  have c0 : octw x / 256 / 256 / 256 / 256 = quadw (x / 268435456 % 268435456) := by unfold octw; omega
  generalize hz : x / 268435456 % 268435456 = z at c0
  have b4 : octw x / 256 / 256 / 256 / 256 % 256 = x / 268435456 % 128 + 128 := by rw [c0]; unfold quadw; omega
  have b5 : octw x / 256 / 256 / 256 / 256 / 256 % 256 = x / 34359738368 % 128 + 128 := by rw [c0]; unfold quadw; omega
  have b6 : octw x / 256 / 256 / 256 / 256 / 256 / 256 % 256 = x / 4398046511104 % 128 + 128 := by rw [c0]; unfold quadw; omega
  have b7 : octw x / 256 / 256 / 256 / 256 / 256 / 256 / 256 % 256 = x / 562949953421312 % 128 + 128 := by rw [c0]; unfold quadw; omega
  rw [le8, b0, b1, b2, b3, b4, b5, b6, b7]
  rfl

theorem ui_nine (x : Nat) (h0 : 72057594037927936 ≤ x) (h1 : x < 18446744073709551616) : ui x = eight x ++ ui (x / 72057594037927936) := by
  have e : x / 268435456 / 268435456 = x / 72057594037927936 := by omega
  unfold ui
  rw [uv_add4 x (by omega) h1, uv_add4 (x / 268435456) (by omega) (by omega), e]
  rw [show x / 268435456 / 128 % 128 = x / 34359738368 % 128 by omega, show x / 268435456 / 16384 % 128 = x / 4398046511104 % 128 by omega, show x / 268435456 / 2097152 % 128 = x / 562949953421312 % 128 by omega]
  rfl

theorem put64r (g o n c : Nat) (v : Int) (x : Nat) (cur : List Value) (w : World) (hv : v = ((octw x : Nat) : Int)) (hn : 8 ≤ n) (hr : Row w g cur) (ho : o + 8 ≤ cur.length) :
    Calls Tryd.prog 54 #[.agg #[], .slice (some ⟨g, o, none⟩) n c, .int .u64 v] w fun e w' => e = .returned (.tuple #[]) ∧ Put w w' g (splice cur o (bc (eight x))) := by
  subst hv
  obtain ⟨x0, c0⟩ := hr.get o (by omega)
  obtain ⟨x1, c1⟩ := hr.get (o + 1) (by omega)
  obtain ⟨x2, c2⟩ := hr.get (o + 2) (by omega)
  obtain ⟨x3, c3⟩ := hr.get (o + 3) (by omega)
  obtain ⟨x4, c4⟩ := hr.get (o + 4) (by omega)
  obtain ⟨x5, c5⟩ := hr.get (o + 5) (by omega)
  obtain ⟨x6, c6⟩ := hr.get (o + 6) (by omega)
  obtain ⟨x7, c7⟩ := hr.get (o + 7) (by omega)
  refine (put64 g o n c (octw x) (octw_lt x) x0 x1 x2 x3 x4 x5 x6 x7 w hn c0 c1 c2 c3 c4 c5 c6 c7 (hr.frozen _) (hr.frozen _) (hr.frozen _) (hr.frozen _) (hr.frozen _) (hr.frozen _) (hr.frozen _) (hr.frozen _)).mono ?_
  rintro e w' ⟨rfl, rfl⟩
  refine ⟨rfl, ?_⟩
  rw [oct_bytes]
  exact put_cells _ hr (by simp [bc, eight]; omega)

theorem top_0 (x : Nat) (h : x < 9223372036854775808) : (x : Int) / 9223372036854775808 = 0 := by omega
theorem top_1 (x : Nat) (h : ¬ x < 9223372036854775808) (h1 : x < 18446744073709551616) : (x : Int) / 9223372036854775808 = 1 := by omega
theorem ninth_of (x : Nat) (h1 : x < 18446744073709551616) : (x : Int) / 72057594037927936 % 256 = ((x / 72057594037927936 : Nat) : Int) := by omega

theorem put_store {w W : World} {g i : Nat} {cur : List Value} (h : Put w W g cur) (hi : i < cur.length) (v : Value) : Put w (W.setCell ⟨g, i, none⟩ v) g (splice cur i [v]) := by
  obtain ⟨r1, r2⟩ := row_setCells g [v] cur i W h.1 (by simp; omega)
  exact ⟨r1, Lib.grownBy_trans h.2 r2⟩

theorem bits_n0 (N : Nat) (h : N < 256) : bits .or .u8 (bits .andNot .u8 (N : Int) 0) 0 = (N : Int) := by
  have h1 : bits .andNot .u8 (N : Int) 0 = ((N &&& (255 - 0) : Nat) : Int) := u8_andNot_nat N 0 h (by decide)
  have h2 : N &&& (255 - 0) = N := by
    rw [show (255 - 0 : Nat) = 255 by decide, nat_mask8]; omega
  rw [h1, h2]
  have h3 : bits .or .u8 (N : Int) 0 = ((N ||| 0 : Nat) : Int) := u8_or_nat N 0 h (by decide)
  rw [h3, Nat.or_zero]

theorem bits_n1 (N : Nat) (h : N < 256) : bits .or .u8 (bits .andNot .u8 (N : Int) (IntKind.u64.wrap (-1) % 256)) 1 = 1 := by
  have h0 : IntKind.u64.wrap (-1) % 256 = 255 := by rw [IntKind.wrap_u64]; decide
  have h1 : bits .andNot .u8 (N : Int) 255 = ((N &&& (255 - 255) : Nat) : Int) := u8_andNot_nat N 255 h (by decide)
  rw [h0, h1, Nat.sub_self, Nat.and_zero]
  decide

theorem nine_end {w w2 : World} {g o x N : Nat} {cur : List Value} (P1 : Put w.drew w2 g (splice cur o (bc (eight x)))) (ho : o + 10 ≤ cur.length) (h0 : 72057594037927936 ≤ x) (h1 : x < 18446744073709551616) (h : x < 9223372036854775808) (hN : N = x / 72057594037927936) :
    Put w ((w2.setCell ⟨g, o + 8, none⟩ (.int .u8 (N : Int))).setCell ⟨g, o + 8, none⟩ (.int .u8 (bits .or .u8 (bits .andNot .u8 (N : Int) 0) 0))) g (splice cur o (uc x)) := by
  have hl : (bc (eight x)).length = 8 := by simp [bc, eight]
  rw [bits_n0 N (by omega)]
  have Q1 := put_store P1.of_drew (i := o + 8) (by rw [length_splice _ _ _ (by omega)]; omega) (.int .u8 (N : Int))
  rw [splice_splice cur _ _ o 8 (by omega) (by simp; omega) (by simp; omega)] at Q1
  have hl2 : ((bc (eight x)).take 8 ++ [Value.int .u8 (N : Int)]).length = 9 := by simp [hl]
  have Q2 := put_store Q1 (i := o + 8) (by rw [length_splice _ _ _ (by omega)]; omega) (.int .u8 (N : Int))
  rw [splice_splice cur _ _ o 8 (by omega) (by simp [hl]) (by simp; omega)] at Q2
  have e : uc x = ((bc (eight x)).take 8 ++ [Value.int .u8 (N : Int)]).take 8 ++ [Value.int .u8 (N : Int)] := by
    unfold uc
    rw [ui_nine x h0 h1, ← hN]
    have hu : ui N = [(N : Int)] := by unfold ui; rw [uv1 N (by omega)]; rfl
    rw [hu, bc_append]
    rfl
  rw [e]
  exact Q2

theorem ten_end {w w2 : World} {g o x N : Nat} {cur : List Value} (P1 : Put w.drew w2 g (splice cur o (bc (eight x)))) (ho : o + 10 ≤ cur.length) (h0 : 72057594037927936 ≤ x) (h1 : x < 18446744073709551616) (h : ¬ x < 9223372036854775808) (hN : N = x / 72057594037927936) :
    Put w ((w2.setCell ⟨g, o + 8, none⟩ (.int .u8 (N : Int))).setCell ⟨g, o + 9, none⟩ (.int .u8 (bits .or .u8 (bits .andNot .u8 (N : Int) (IntKind.u64.wrap (-1) % 256)) 1))) g (splice cur o (uc x)) := by
  have hl : (bc (eight x)).length = 8 := by simp [bc, eight]
  rw [bits_n1 N (by omega)]
  have Q1 := put_store P1.of_drew (i := o + 8) (by rw [length_splice _ _ _ (by omega)]; omega) (.int .u8 (N : Int))
  rw [splice_splice cur _ _ o 8 (by omega) (by simp; omega) (by simp; omega)] at Q1
  have hl2 : ((bc (eight x)).take 8 ++ [Value.int .u8 (N : Int)]).length = 9 := by simp [hl]
  have Q2 := put_store Q1 (i := o + 9) (by rw [length_splice _ _ _ (by omega)]; omega) (.int .u8 1)
  rw [splice_splice cur _ _ o 9 (by omega) (by simp [hl]) (by simp; omega)] at Q2
  have e : uc x = ((bc (eight x)).take 8 ++ [Value.int .u8 (N : Int)]).take 9 ++ [Value.int .u8 1] := by
    unfold uc
    rw [ui_nine x h0 h1, ← hN]
    have hu : ui N = [(N : Int), 1] := by
      unfold ui
      rw [uv2 N (by omega) (by omega), show N % 128 + 128 = N by omega, show N / 128 = 1 by omega]; rfl
    rw [hu, bc_append]
    rfl
  rw [e]
  exact Q2

theorem ulen9 (x : Nat) (h0 : 72057594037927936 ≤ x) (h : x < 9223372036854775808) : ulen x = 9 := by have := ulen_cases x; omega
theorem ulen10 (x : Nat) (h : ¬ x < 9223372036854775808) : ulen x = 10 := by have := ulen_cases x; omega

set_option maxRecDepth 100000 in
set_option maxHeartbeats 1000000 in
theorem putNine (g o L c x : Nat) (cur : List Value) (w : World) (h0 : 72057594037927936 ≤ x) (h1 : x < 18446744073709551616) (hr : Row w g cur) (hL : 10 ≤ L) (ho : o + L ≤ cur.length) :
    Calls Tryd.prog 46 #[.slice (some ⟨g, o, none⟩) L c, .int .u64 (x : Int)] w fun e w' => e = .returned (.int .i64 (ulen x : Int)) ∧ Put w w' g (splice cur o (uc x)) := by
  have H0 : Hid (72057594037927936 ≤ x) := h0
  have H1 : Hid (x < 18446744073709551616) := h1
  have WO : Hid _ := oct_word x
  have hN : x / 72057594037927936 < 256 := by omega
  have HN := ninth_of x h1
  obtain ⟨N, hNe⟩ : ∃ N, N = x / 72057594037927936 := ⟨_, rfl⟩
  rw [← hNe] at hN HN
  have HNE : Hid (N = x / 72057594037927936) := hNe
  have HN' : Hid _ := HN
  by_cases h63 : x < 9223372036854775808
  · have HT : Hid _ := top_0 x h63
    have H63 : Hid (x < 9223372036854775808) := h63
    clear h0 h1 hNe HN h63
    go_enter Tryd.func46, Tryd.ntmps46
    go_wp2
    rw [HN'.out, HT.out]
    go_region_with (first
      | (go_at_call 55; refine (groups_any x _ H1.out).mono ?_; rintro e w' ⟨rfl, hw⟩; rw [hw]; clear hw w')
      | (go_at_call 54; refine (put64r g o L c _ x cur w.drew WO.out (by omega) hr (by omega)).mono ?_; rintro e w2 ⟨rfl, P1⟩))
    all_goals
      obtain ⟨v8, c8⟩ := P1.1.get (o + 8) (by rw [length_splice _ _ _ (by simp [bc, eight]; omega)]; omega)
      have f8 := P1.1.frozen (o + 8)
      have hL8 : (8 : Int) < (L : Int) := by omega
      go_wp2
    all_goals
      go_ret
      refine ⟨?_, nine_end P1 (by omega) H0.out H1.out H63.out HNE.out⟩
      rw [ulen9 x H0.out H63.out]
      rfl
  · have HT : Hid _ := top_1 x h63 h1
    have H63 : Hid (¬ x < 9223372036854775808) := h63
    clear h0 h1 hNe HN h63
    go_enter Tryd.func46, Tryd.ntmps46
    go_wp2
    rw [HN'.out, HT.out]
    go_region_with (first
      | (go_at_call 55; refine (groups_any x _ H1.out).mono ?_; rintro e w' ⟨rfl, hw⟩; rw [hw]; clear hw w')
      | (go_at_call 54; refine (put64r g o L c _ x cur w.drew WO.out (by omega) hr (by omega)).mono ?_; rintro e w2 ⟨rfl, P1⟩))
    all_goals
      obtain ⟨v8, c8⟩ := P1.1.get (o + 8) (by rw [length_splice _ _ _ (by simp [bc, eight]; omega)]; omega)
      obtain ⟨v9, c9⟩ := P1.1.get (o + 9) (by rw [length_splice _ _ _ (by simp [bc, eight]; omega)]; omega)
      have f8 := P1.1.frozen (o + 8)
      have f9 := P1.1.frozen (o + 9)
      have hL8 : (8 : Int) < (L : Int) := by omega
      have hL9 : (9 : Int) < (L : Int) := by omega
      go_wp2
    all_goals
      go_ret
      refine ⟨?_, ten_end P1 (by omega) H0.out H1.out H63.out HNE.out⟩
      rw [ulen10 x H63.out]
      rfl
end Go.Proofs.Qxb6608669aDoor
