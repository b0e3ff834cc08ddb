/-
  Seat b6608669aD: the varint of x, as plain numbers: 'uv x'. By an AI agent.
-/
import Derived.Laws.BitsAllLaws
namespace Go.Proofs.Qxb6608669aDoor

/-- How many bytes the varint of x takes. -/
def ulen (x : Nat) : Nat :=
  if x < 128 then 1 else if x < 16384 then 2 else if x < 2097152 then 3 else if x < 268435456 then 4 else if x < 34359738368 then 5 else if x < 4398046511104 then 6
  else if x < 562949953421312 then 7 else if x < 72057594037927936 then 8 else if x < 9223372036854775808 then 9 else 10

/-- Its byte i. -/
def ub (x i : Nat) : Nat := x / 128 ^ i % 128 + if i + 1 < ulen x then 128 else 0

/-- THE VARINT OF x. -/
def uv (x : Nat) : List Nat := (List.range (ulen x)).map (ub x)

theorem ulen_cases (x : Nat) : (x < 128 ∧ ulen x = 1) ∨ (128 ≤ x ∧ x < 16384 ∧ ulen x = 2) ∨ (16384 ≤ x ∧ x < 2097152 ∧ ulen x = 3) ∨ (2097152 ≤ x ∧ x < 268435456 ∧ ulen x = 4) ∨ (268435456 ≤ x ∧ x < 34359738368 ∧ ulen x = 5) ∨ (34359738368 ≤ x ∧ x < 4398046511104 ∧ ulen x = 6) ∨ (4398046511104 ≤ x ∧ x < 562949953421312 ∧ ulen x = 7) ∨ (562949953421312 ≤ x ∧ x < 72057594037927936 ∧ ulen x = 8) ∨ (72057594037927936 ≤ x ∧ x < 9223372036854775808 ∧ ulen x = 9) ∨ (9223372036854775808 ≤ x ∧ ulen x = 10) := by
  unfold ulen
  by_cases h1 : x < 128
  · rw [if_pos h1]
    omega
  by_cases h2 : x < 16384
  · rw [if_neg h1, if_pos h2]
    omega
  by_cases h3 : x < 2097152
  · rw [if_neg h1, if_neg h2, if_pos h3]
    omega
  by_cases h4 : x < 268435456
  · rw [if_neg h1, if_neg h2, if_neg h3, if_pos h4]
    omega
  by_cases h5 : x < 34359738368
  · rw [if_neg h1, if_neg h2, if_neg h3, if_neg h4, if_pos h5]
    omega
  by_cases h6 : x < 4398046511104
  · rw [if_neg h1, if_neg h2, if_neg h3, if_neg h4, if_neg h5, if_pos h6]
    omega
  by_cases h7 : x < 562949953421312
  · rw [if_neg h1, if_neg h2, if_neg h3, if_neg h4, if_neg h5, if_neg h6, if_pos h7]
    omega
  by_cases h8 : x < 72057594037927936
  · rw [if_neg h1, if_neg h2, if_neg h3, if_neg h4, if_neg h5, if_neg h6, if_neg h7, if_pos h8]
    omega
  by_cases h9 : x < 9223372036854775808
  · rw [if_neg h1, if_neg h2, if_neg h3, if_neg h4, if_neg h5, if_neg h6, if_neg h7, if_neg h8, if_pos h9]
    omega
  rw [if_neg h1, if_neg h2, if_neg h3, if_neg h4, if_neg h5, if_neg h6, if_neg h7, if_neg h8, if_neg h9]
  omega

theorem ulen_pos (x : Nat) : 1 ≤ ulen x := by have := ulen_cases x; omega
theorem ulen_le (x : Nat) : ulen x ≤ 10 := by have := ulen_cases x; omega

theorem ten_cases {m : Nat} (h : m < 10) : m = 0 ∨ m = 1 ∨ m = 2 ∨ m = 3 ∨ m = 4 ∨ m = 5 ∨ m = 6 ∨ m = 7 ∨ m = 8 ∨ m = 9 := by omega

/-- There is a byte behind byte m where what is left is 128 or more. -/
theorem ulen_iff (x m : Nat) (hx : x < 18446744073709551616) (hm : m < 10) : m + 1 < ulen x ↔ 128 ≤ x / 128 ^ m := by
  rcases ten_cases hm with rfl | rfl | rfl | rfl | rfl | rfl | rfl | rfl | rfl | rfl
  all_goals
    simp only [Nat.reducePow, Nat.reduceAdd]
    rcases ulen_cases x with h | h | h | h | h | h | h | h | h | h
    all_goals omega

theorem uv_length (x : Nat) : (uv x).length = ulen x := by simp [uv]
theorem uv_get (x i : Nat) (h : i < ulen x) : (uv x)[i]? = some (ub x i) := by simp [uv, h]
theorem uv_getD (x i : Nat) (h : i < ulen x) : (uv x).getD i 0 = ub x i := by simp [uv, h, List.getD]
theorem ub_lt (x i : Nat) : ub x i < 256 := by unfold ub; split <;> omega
theorem uv_take (x m : Nat) (h : m < ulen x) : (uv x).take (m + 1) = (uv x).take m ++ [ub x m] := by
  rw [List.take_add_one, uv_get x m h]; rfl

theorem uv1 (x : Nat) (h : x < 128) : uv x = [x] := by
  have e : ulen x = 1 := by unfold ulen; rw [if_pos h]
  simp [uv, e, List.range_succ, ub]
  omega

theorem uv2 (x : Nat) (h0 : 128 ≤ x) (h : x < 16384) : uv x = [x % 128 + 128, x / 128] := by
  have e : ulen x = 2 := by unfold ulen; rw [if_neg (by omega), if_pos h]
  simp [uv, e, List.range_succ, ub]
  omega

theorem uv3 (x : Nat) (h0 : 16384 ≤ x) (h : x < 2097152) : uv x = [x % 128 + 128, x / 128 % 128 + 128, x / 16384] := by
  have e : ulen x = 3 := by unfold ulen; rw [if_neg (by omega), if_neg (by omega), if_pos h]
  simp [uv, e, List.range_succ, ub]
  omega

theorem uv4 (x : Nat) (h0 : 2097152 ≤ x) (h : x < 268435456) : uv x = [x % 128 + 128, x / 128 % 128 + 128, x / 16384 % 128 + 128, x / 2097152] := by
  have e : ulen x = 4 := by unfold ulen; rw [if_neg (by omega), if_neg (by omega), if_neg (by omega), if_pos h]
  simp [uv, e, List.range_succ, ub]
  omega

theorem ulen_add4 (x : Nat) (h0 : 268435456 ≤ x) (hx : x < 18446744073709551616) : ulen x = 4 + ulen (x / 268435456) := by
  have h2 := ulen_cases (x / 268435456)
  rcases ulen_cases x with h | h | h | h | h | h | h | h | h | h
  all_goals omega

theorem ub_add4 (x j : Nat) (h0 : 268435456 ≤ x) (hx : x < 18446744073709551616) : ub x (4 + j) = ub (x / 268435456) j := by
  unfold ub
  rw [ulen_add4 x h0 hx, Nat.pow_add, ← Nat.div_div_eq_div_mul]
  have e : (4 + j + 1 < 4 + ulen (x / 268435456)) = (j + 1 < ulen (x / 268435456)) := by apply propext; omega
  simp only [e, Nat.reducePow]

/-- Five bytes and more: four of them, and then the varint of what is left. -/
theorem uv_add4 (x : Nat) (h0 : 268435456 ≤ x) (hx : x < 18446744073709551616) : uv x = [x % 128 + 128, x / 128 % 128 + 128, x / 16384 % 128 + 128, x / 2097152 % 128 + 128] ++ uv (x / 268435456) := by
  have hl := ulen_add4 x h0 hx
  have hp := ulen_pos (x / 268435456)
  apply List.ext_getElem?
  intro i
  by_cases hi : i < 4
  · rw [List.getElem?_append_left (by simpa using hi), uv_get x i (by omega)]
    rcases (by omega : i = 0 ∨ i = 1 ∨ i = 2 ∨ i = 3) with rfl | rfl | rfl | rfl
    all_goals
      simp only [ub, hl]
      rw [if_pos (by omega)]
      simp
  · obtain ⟨j, rfl⟩ : ∃ j, i = 4 + j := ⟨i - 4, by omega⟩
    rw [List.getElem?_append_right (by simp)]
    simp only [List.length_cons, List.length_nil]
    rw [show 4 + j - (0 + 1 + 1 + 1 + 1) = j by omega]
    by_cases hj : j < ulen (x / 268435456)
    · rw [uv_get x _ (by omega), uv_get _ j hj, ub_add4 x j h0 hx]
    · rw [List.getElem?_eq_none (by rw [uv_length]; omega), List.getElem?_eq_none (by rw [uv_length]; omega)]

end Go.Proofs.Qxb6608669aDoor
