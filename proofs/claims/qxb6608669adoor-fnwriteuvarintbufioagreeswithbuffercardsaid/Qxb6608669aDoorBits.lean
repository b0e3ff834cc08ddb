/-
  Seat b6608669aD: the plain arithmetic of the word tricks: pairWord, spreadQuad, spreadGroups. By an AI agent.
-/
import Derived.Laws.BitsAllLaws
import Derived.Laws.Bits64
namespace Go.Proofs.Qxb6608669aDoor

/-- The four groups of 7 bits of x, one to a byte. -/
def spread4 (x : Nat) : Nat := x % 128 + 256 * (x / 128 % 128) + 65536 * (x / 16384 % 128) + 16777216 * (x / 2097152 % 128)

theorem and_split (k x m : Nat) : x &&& m = ((x % 2 ^ k) &&& (m % 2 ^ k)) + 2 ^ k * ((x / 2 ^ k) &&& (m / 2 ^ k)) := by
  have h1 := Nat.and_mod_two_pow (a := x) (b := m) (n := k)
  have h2 := Nat.and_div_two_pow (a := x) (b := m) (n := k)
  rw [← h1, ← h2, Nat.add_comm]
  exact (Nat.div_add_mod _ _).symm

theorem and_16256 (a : Nat) (h : a < 16384) : a &&& 16256 = 128 * (a / 128) := by
  rw [and_split 7 a 16256]
  have e1 : 16256 % 2 ^ 7 = 0 := by decide
  have e2 : 16256 / 2 ^ 7 = 127 := by decide
  rw [e1, e2, Nat.and_zero, nat_mask7]
  omega

theorem and_0fffc000 (x : Nat) (h : x < 268435456) : x &&& 268419072 = 16384 * (x / 16384) := by
  rw [and_split 14 x 268419072]
  have e1 : 268419072 % 2 ^ 14 = 0 := by decide
  have e2 : 268419072 / 2 ^ 14 = 16383 := by decide
  rw [e1, e2, Nat.and_zero, nat_mask14]
  omega

theorem and_3f803f80 (a b : Nat) (ha : a < 16384) (hb : b < 16384) : (a + 65536 * b) &&& 1065369472 = 128 * (a / 128) + 65536 * (128 * (b / 128)) := by
  rw [and_split 16 (a + 65536 * b) 1065369472]
  have e1 : 1065369472 % 2 ^ 16 = 16256 := by decide
  have e2 : 1065369472 / 2 ^ 16 = 16256 := by decide
  have e3 : (a + 65536 * b) % 2 ^ 16 = a := by omega
  have e4 : (a + 65536 * b) / 2 ^ 16 = b := by omega
  rw [e1, e2, e3, e4, and_16256 a ha, and_16256 b hb]

theorem quad_nat (x : Nat) (h : x < 268435456) : (x + 3 * (x &&& 268419072)) + ((x + 3 * (x &&& 268419072)) &&& 1065369472) = spread4 x := by
  rw [and_0fffc000 x h]
  have e : x + 3 * (16384 * (x / 16384)) = x % 16384 + 65536 * (x / 16384) := by omega
  rw [e, and_3f803f80 _ _ (by omega) (by omega)]
  unfold spread4
  omega

theorem spread4_lt (x : Nat) : spread4 x < 2139062144 := by unfold spread4; omega

theorem quad_bits (x : Nat) (h : x < 268435456) :
    (((x : Int) + 3 * bits .and .u32 (x : Int) 268419072) % 4294967296 + bits .and .u32 (((x : Int) + 3 * bits .and .u32 (x : Int) 268419072) % 4294967296) 1065369472) % 4294967296 = ((spread4 x : Nat) : Int) := by
  have e1 : bits .and .u32 (x : Int) 268419072 = ((x &&& 268419072 : Nat) : Int) := u32_and_nat x 268419072 (by omega) (by decide)
  have b1 := and_0fffc000 x h
  have q := quad_nat x h
  have s := spread4_lt x
  have e2 : ((x : Int) + 3 * ((x &&& 268419072 : Nat) : Int)) % 4294967296 = ((x + 3 * (x &&& 268419072) : Nat) : Int) := by omega
  rw [e1, e2]
  have e3 : bits .and .u32 ((x + 3 * (x &&& 268419072) : Nat) : Int) 1065369472 = (((x + 3 * (x &&& 268419072)) &&& 1065369472 : Nat) : Int) := u32_and_nat _ 1065369472 (by omega) (by decide)
  rw [e3]
  omega

/-- The eight groups of 7 bits of x's low 56, one to a byte. -/
def spread8 (x : Nat) : Nat := spread4 (x % 268435456) + 4294967296 * spread4 (x / 268435456 % 268435456)

theorem spread8_lt (x : Nat) : spread8 x < 9187343241974906880 := by
  have h1 := spread4_lt (x % 268435456)
  have h2 := spread4_lt (x / 268435456 % 268435456)
  unfold spread8; omega

/-- A mask over two halves of 32 bits. -/
theorem and_halves (a b m : Nat) (ha : a < 4294967296) (hm : m < 4294967296) : (a + 4294967296 * b) &&& (m + 4294967296 * m) = (a &&& m) + 4294967296 * (b &&& m) := by
  rw [and_split 32 (a + 4294967296 * b)]
  have e1 : (m + 4294967296 * m) % 2 ^ 32 = m := by omega
  have e2 : (m + 4294967296 * m) / 2 ^ 32 = m := by omega
  have e3 : (a + 4294967296 * b) % 2 ^ 32 = a := by omega
  have e4 : (a + 4294967296 * b) / 2 ^ 32 = b := by omega
  rw [e1, e2, e3, e4]

theorem groups_nat (x : Nat) (y : Nat) (hy : y = x % 268435456 + 4294967296 * (x / 268435456 % 268435456)) :
    (y + 3 * (y &&& 1152851136131088384)) + ((y + 3 * (y &&& 1152851136131088384)) &&& 4575727041462157184) = spread8 x ∧ y + 3 * (y &&& 1152851136131088384) < 18446744073709551616 := by
  have hlo : x % 268435456 < 268435456 := by omega
  have hhi : x / 268435456 % 268435456 < 268435456 := by omega
  unfold spread8
  have m1 : (1152851136131088384 : Nat) = 268419072 + 4294967296 * 268419072 := by decide
  have m2 : (4575727041462157184 : Nat) = 1065369472 + 4294967296 * 1065369472 := by decide
  generalize x % 268435456 = lo at *
  generalize hhe : x / 268435456 % 268435456 = hi at *
  have q1 := quad_nat lo hlo
  have q2 := quad_nat hi hhi
  have b1 := and_0fffc000 lo hlo
  have b2 := and_0fffc000 hi hhi
  have e1 : y &&& 1152851136131088384 = (lo &&& 268419072) + 4294967296 * (hi &&& 268419072) := by rw [hy, m1]; exact and_halves lo hi 268419072 (by omega) (by decide)
  have e2 : y + 3 * (y &&& 1152851136131088384) = (lo + 3 * (lo &&& 268419072)) + 4294967296 * (hi + 3 * (hi &&& 268419072)) := by rw [e1, hy]; omega
  refine ⟨?_, by rw [e2]; omega⟩
  rw [e2, m2, and_halves _ _ 1065369472 (by omega) (by decide)]
  omega

theorem wrap64n (n : Nat) (h : n < 18446744073709551616) : IntKind.u64.wrap (n : Int) = (n : Int) := by rw [IntKind.wrap_u64]; omega

theorem groups_bits (x : Nat) (h : x < 18446744073709551616) :
    IntKind.u64.wrap (IntKind.u64.wrap (bits .or .u64 (bits .and .u64 (x : Int) 268435455) (IntKind.u64.wrap (bits .and .u64 (x : Int) 72057593769492480 * 16)) +
        IntKind.u64.wrap (3 * bits .and .u64 (bits .or .u64 (bits .and .u64 (x : Int) 268435455) (IntKind.u64.wrap (bits .and .u64 (x : Int) 72057593769492480 * 16))) 1152851136131088384)) +
      bits .and .u64 (IntKind.u64.wrap (bits .or .u64 (bits .and .u64 (x : Int) 268435455) (IntKind.u64.wrap (bits .and .u64 (x : Int) 72057593769492480 * 16)) +
        IntKind.u64.wrap (3 * bits .and .u64 (bits .or .u64 (bits .and .u64 (x : Int) 268435455) (IntKind.u64.wrap (bits .and .u64 (x : Int) 72057593769492480 * 16))) 1152851136131088384))) 4575727041462157184) = ((spread8 x : Nat) : Int) := by
  have e1 : bits .and .u64 (x : Int) 268435455 = ((x % 268435456 : Nat) : Int) := by
    have h1 : bits .and .u64 (x : Int) 268435455 = ((x &&& 268435455 : Nat) : Int) := u64_and_nat x 268435455 h (by decide)
    rw [h1, nat_mask28]
  have e2 : bits .and .u64 (x : Int) 72057593769492480 = ((268435456 * (x / 268435456 % 268435456) : Nat) : Int) := by
    have h1 : bits .and .u64 (x : Int) 72057593769492480 = ((x &&& 72057593769492480 : Nat) : Int) := u64_and_nat x 72057593769492480 h (by decide)
    have h2 : x &&& 72057593769492480 = 268435456 * (x / 268435456 % 268435456) := by
      rw [and_split 28 x 72057593769492480]
      have e1 : 72057593769492480 % 2 ^ 28 = 0 := by decide
      have e2 : 72057593769492480 / 2 ^ 28 = 268435455 := by decide
      have e3 : x / 2 ^ 28 = x / 268435456 := by rfl
      rw [e1, e2, e3, Nat.and_zero, nat_mask28]
      omega
    rw [h1, h2]
  have e3 : IntKind.u64.wrap (((268435456 * (x / 268435456 % 268435456) : Nat) : Int) * 16) = ((4294967296 * (x / 268435456 % 268435456) : Nat) : Int) := by rw [IntKind.wrap_u64]; omega
  rw [e1, e2, e3]
  obtain ⟨y, hy⟩ : ∃ y, y = x % 268435456 + 4294967296 * (x / 268435456 % 268435456) := ⟨_, rfl⟩
  have e4 : bits .or .u64 ((x % 268435456 : Nat) : Int) ((4294967296 * (x / 268435456 % 268435456) : Nat) : Int) = (y : Int) := by
    rw [u64_or_nat _ _ (by omega) (by omega), Nat.or_comm, nat_join 32 _ _ (by omega) (by omega), hy, Nat.add_comm]
  rw [e4]
  obtain ⟨g1, g2⟩ := groups_nat x y hy
  have hs := spread8_lt x
  have e5 : bits .and .u64 (y : Int) 1152851136131088384 = ((y &&& 1152851136131088384 : Nat) : Int) := u64_and_nat y 1152851136131088384 (by omega) (by decide)
  rw [e5]
  generalize (y &&& 1152851136131088384) = z at *
  have e6 : IntKind.u64.wrap (3 * (z : Int)) = ((3 * z : Nat) : Int) := by rw [IntKind.wrap_u64]; omega
  have e7 : IntKind.u64.wrap ((y : Int) + ((3 * z : Nat) : Int)) = ((y + 3 * z : Nat) : Int) := by rw [IntKind.wrap_u64]; omega
  have e8 : bits .and .u64 ((y + 3 * z : Nat) : Int) 4575727041462157184 = (((y + 3 * z) &&& 4575727041462157184 : Nat) : Int) := u64_and_nat _ 4575727041462157184 g2 (by decide)
  rw [e6, e7, e8, IntKind.wrap_u64]
  omega

theorem pair_bits (x : Nat) (h : x < 16384) :
    bits .or .u16 (bits .or .u16 (bits .and .u16 (x : Int) 127) (bits .and .u16 ((x : Int) * 2) 32512)) 128 = ((x % 128 + 128 + 256 * (x / 128) : Nat) : Int) := by
  have e1 : bits .and .u16 (x : Int) 127 = ((x % 128 : Nat) : Int) := by
    have h1 : bits .and .u16 (x : Int) 127 = ((x &&& 127 : Nat) : Int) := u16_and_nat x 127 (by omega) (by decide)
    rw [h1, nat_mask7]
  have e2 : bits .and .u16 ((x : Int) * 2) 32512 = ((256 * (x / 128) : Nat) : Int) := by
    have h1 : bits .and .u16 ((x * 2 : Nat) : Int) 32512 = ((x * 2 &&& 32512 : Nat) : Int) := u16_and_nat (x * 2) 32512 (by omega) (by decide)
    have h2 : x * 2 &&& 32512 = 256 * (x / 128) := by
      rw [and_split 8 (x * 2) 32512]
      have e1 : 32512 % 2 ^ 8 = 0 := by decide
      have e2 : 32512 / 2 ^ 8 = 127 := by decide
      rw [e1, e2, Nat.and_zero, nat_mask7]
      omega
    rw [show (x : Int) * 2 = ((x * 2 : Nat) : Int) by omega, h1, h2]
  rw [e1, e2, u16_or_nat _ _ (by omega) (by omega), Nat.or_comm, nat_join 8 _ _ (by omega) (by omega)]
  have h3 : bits .or .u16 ((256 * (x / 128) + x % 128 : Nat) : Int) 128 = (((256 * (x / 128) + x % 128) ||| 128 : Nat) : Int) := u16_or_nat _ 128 (by omega) (by decide)
  rw [h3]
  have h4 : (256 * (x / 128) + x % 128) ||| 128 = 256 * (x / 128) + (x % 128 + 128) := by
    rw [← nat_join 8 (256 * (x / 128)) (x % 128) (by omega) (by omega), Nat.or_assoc, Nat.or_comm (x % 128), nat_join 7 128 (x % 128) (by omega) (by omega), nat_join 8 _ _ (by omega) (by omega)]
    omega
  rw [h4]
  omega


theorem or_split (k x m : Nat) : x ||| m = ((x % 2 ^ k) ||| (m % 2 ^ k)) + 2 ^ k * ((x / 2 ^ k) ||| (m / 2 ^ k)) := by
  have h1 := Nat.or_mod_two_pow (a := x) (b := m) (n := k)
  have h2 := Nat.or_div_two_pow (a := x) (b := m) (n := k)
  rw [← h1, ← h2, Nat.add_comm]
  exact (Nat.div_add_mod _ _).symm

theorem or_128 (a : Nat) (h : a < 128) : a ||| 128 = a + 128 := by
  rw [Nat.or_comm, nat_join 7 128 a (by decide) (by omega), Nat.add_comm]

theorem or_8080 (a b : Nat) (ha : a < 128) (hb : b < 128) : (a + 256 * b) ||| 32896 = (a + 128) + 256 * (b + 128) := by
  rw [or_split 8 (a + 256 * b) 32896]
  have e1 : 32896 % 2 ^ 8 = 128 := by decide
  have e2 : 32896 / 2 ^ 8 = 128 := by decide
  have e3 : (a + 256 * b) % 2 ^ 8 = a := by omega
  have e4 : (a + 256 * b) / 2 ^ 8 = b := by omega
  rw [e1, e2, e3, e4, or_128 a ha, or_128 b hb]

theorem or_80 (a b : Nat) (ha : a < 128) : (a + 256 * b) ||| 128 = (a + 128) + 256 * b := by
  rw [or_split 8 (a + 256 * b) 128]
  have e1 : 128 % 2 ^ 8 = 128 := by decide
  have e2 : 128 / 2 ^ 8 = 0 := by decide
  have e3 : (a + 256 * b) % 2 ^ 8 = a := by omega
  have e4 : (a + 256 * b) / 2 ^ 8 = b := by omega
  rw [e1, e2, e3, e4, or_128 a ha, Nat.or_zero]

/-- 'uint16(w)|0x8080'. -/
theorem first_word (x : Nat) : bits .or .u16 (IntKind.u16.wrap ((spread4 x : Nat) : Int)) 32896 = (((x % 128 + 128) + 256 * (x / 128 % 128 + 128) : Nat) : Int) := by
  have e : IntKind.u16.wrap ((spread4 x : Nat) : Int) = ((x % 128 + 256 * (x / 128 % 128) : Nat) : Int) := by rw [IntKind.wrap_u16]; unfold spread4; omega
  have h1 : bits .or .u16 ((x % 128 + 256 * (x / 128 % 128) : Nat) : Int) 32896 = (((x % 128 + 256 * (x / 128 % 128)) ||| 32896 : Nat) : Int) := u16_or_nat _ 32896 (by omega) (by decide)
  rw [e, h1, or_8080 _ _ (by omega) (by omega)]

/-- 'uint16(w>>8)|0x80'. -/
theorem last_word3 (x : Nat) : bits .or .u16 (IntKind.u16.wrap (((spread4 x : Nat) : Int) / 256)) 128 = (((x / 128 % 128 + 128) + 256 * (x / 16384 % 128) : Nat) : Int) := by
  have e : IntKind.u16.wrap (((spread4 x : Nat) : Int) / 256) = ((x / 128 % 128 + 256 * (x / 16384 % 128) : Nat) : Int) := by rw [IntKind.wrap_u16]; unfold spread4; omega
  have h1 : bits .or .u16 ((x / 128 % 128 + 256 * (x / 16384 % 128) : Nat) : Int) 128 = (((x / 128 % 128 + 256 * (x / 16384 % 128)) ||| 128 : Nat) : Int) := u16_or_nat _ 128 (by omega) (by decide)
  rw [e, h1, or_80 _ _ (by omega)]

/-- 'uint16(w>>16)|0x80'. -/
theorem last_word4 (x : Nat) : bits .or .u16 (IntKind.u16.wrap (((spread4 x : Nat) : Int) / 65536)) 128 = (((x / 16384 % 128 + 128) + 256 * (x / 2097152 % 128) : Nat) : Int) := by
  have e : IntKind.u16.wrap (((spread4 x : Nat) : Int) / 65536) = ((x / 16384 % 128 + 256 * (x / 2097152 % 128) : Nat) : Int) := by rw [IntKind.wrap_u16]; unfold spread4; omega
  have h1 : bits .or .u16 ((x / 16384 % 128 + 256 * (x / 2097152 % 128) : Nat) : Int) 128 = (((x / 16384 % 128 + 256 * (x / 2097152 % 128)) ||| 128 : Nat) : Int) := u16_or_nat _ 128 (by omega) (by decide)
  rw [e, h1, or_80 _ _ (by omega)]


/-- The four groups, every high bit set. -/
def quadw (y : Nat) : Nat := (y % 128 + 128) + 256 * (y / 128 % 128 + 128) + 65536 * (y / 16384 % 128 + 128) + 16777216 * (y / 2097152 % 128 + 128)
theorem quadw_lt (y : Nat) : quadw y < 4294967296 := by unfold quadw; omega

theorem or_quad (y : Nat) : spread4 y ||| 2155905152 = quadw y := by
  rw [or_split 16 (spread4 y) 2155905152]
  have e1 : 2155905152 % 2 ^ 16 = 32896 := by decide
  have e2 : 2155905152 / 2 ^ 16 = 32896 := by decide
  have e3 : spread4 y % 2 ^ 16 = y % 128 + 256 * (y / 128 % 128) := by unfold spread4; omega
  have e4 : spread4 y / 2 ^ 16 = y / 16384 % 128 + 256 * (y / 2097152 % 128) := by unfold spread4; omega
  rw [e1, e2, e3, e4, or_8080 _ _ (by omega) (by omega), or_8080 _ _ (by omega) (by omega)]
  unfold quadw
  simp only [Nat.reducePow]
  clear e1 e2 e3 e4
  generalize y % 128 = a
  generalize y / 128 % 128 = b
  generalize y / 16384 % 128 = c
  generalize y / 2097152 % 128 = d
  omega

theorem quad_word (y : Nat) : bits .or .u32 ((spread4 y : Nat) : Int) 2155905152 = ((quadw y : Nat) : Int) := by
  have h := spread4_lt y
  have h1 : bits .or .u32 ((spread4 y : Nat) : Int) 2155905152 = ((spread4 y ||| 2155905152 : Nat) : Int) := u32_or_nat _ 2155905152 (by omega) (by decide)
  rw [h1, or_quad]

def octw (x : Nat) : Nat := quadw (x % 268435456) + 4294967296 * quadw (x / 268435456 % 268435456)
theorem octw_lt (x : Nat) : octw x < 18446744073709551616 := by
  have h1 := quadw_lt (x % 268435456)
  have h2 := quadw_lt (x / 268435456 % 268435456)
  unfold octw; omega

theorem oct_word (x : Nat) : bits .or .u64 ((spread8 x : Nat) : Int) 9259542123273814144 = ((octw x : Nat) : Int) := by
  have h := spread8_lt x
  have h1 : bits .or .u64 ((spread8 x : Nat) : Int) 9259542123273814144 = ((spread8 x ||| 9259542123273814144 : Nat) : Int) := u64_or_nat _ 9259542123273814144 (by omega) (by decide)
  have a1 := spread4_lt (x % 268435456)
  have e1 : 9259542123273814144 % 2 ^ 32 = 2155905152 := by decide
  have e2 : 9259542123273814144 / 2 ^ 32 = 2155905152 := by decide
  have e3 : spread8 x % 2 ^ 32 = spread4 (x % 268435456) := by unfold spread8; omega
  have e4 : spread8 x / 2 ^ 32 = spread4 (x / 268435456 % 268435456) := by unfold spread8; omega
  rw [h1, or_split 32 (spread8 x) 9259542123273814144, e1, e2, e3, e4, or_quad, or_quad]
  rfl

end Go.Proofs.Qxb6608669aDoor
