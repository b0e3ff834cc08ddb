/-
  Seat b6608763a: the walk of FnGraftAppendFieldsDecodes. By an AI agent.
-/
import Derived.Test.Qxb6608763aExpect
import Derived.Test.Qxb6608763aGraft
namespace Go.Proofs.Qxb6608763a
open Go.RowKit

theorem expect_at (a : Option Addr) (n c m v N M : Nat) (zs p r : List Int) (w : World) (hn : n ≤ 4194304) (hl : zs.length = n) (hm : m < 8) (hv : v < 18446744073709551616) (h : Lies w a zs) (hz : zs = p ++ hd m v ++ r) (hN : p.length = N) (hM : N + (hd m v).length = M) :
    Calls Try.prog 13 #[.slice a n c, .int .i64 (N : Int), .int .u8 (m : Int), .int .u64 (v : Int)] w fun e w' => e = .returned (.tuple #[.int .i64 (M : Int), .bool true]) ∧ w' = w := by
  subst hN
  subst hM
  subst hz
  exact expect_any a n c m v p r w hn hl hm hv h

theorem etext_at (a : Option Addr) (n c N M : Nat) (zs p r : List Int) (s : ByteArray) (w : World) (hn : n ≤ 4194304) (hl : zs.length = n) (h : Lies w a zs) (hz : zs = p ++ hd 3 s.size ++ (sb s ++ r)) (hN : p.length = N) (hM : N + (hd 3 s.size).length + s.size = M) :
    Calls Try.prog 14 #[.slice a n c, .int .i64 (N : Int), .string s] w fun e w' => e = .returned (.tuple #[.int .i64 (M : Int), .bool true]) ∧ ∃ k, w' = w.drewN k := by
  subst hN
  subst hM
  subst hz
  exact etext_any a n c p r s w hn hl h

set_option maxHeartbeats 400000 in
theorem bytes19 (a : Option Addr) (n c : Nat) (x1 : Bool) (s : ByteArray) (x3 x4 : Int) (w : World) :
    Calls Try.prog 19 #[.slice a n c, .bool x1, .string s, .int .u64 x3, .int .u32 x4] w fun e w' => e = .returned (.bool (decide (n + s.size ≤ 1048576))) ∧ w' = w := by
  by_cases h1 : n ≤ 1048576
  · have d1 : ¬ (1048576 : Int) < (n : Int) := by omega
    by_cases h2 : s.size ≤ 1048576
    · have d2 : ¬ (1048576 : Int) < (s.size : Int) := by omega
      by_cases h3 : n + s.size ≤ 1048576
      · have d3 : ¬ (1048576 : Int) < (n : Int) + (s.size : Int) := by omega
        rw [decide_eq_true h3]
        have H := hid (And.intro h1 (And.intro h2 h3))
        clear h1 h2 h3
        go_enter Try.func19, Try.ntmps19
        go_wp2
        go_ret
        exact ⟨rfl, rfl⟩
      · have d3 : (1048576 : Int) < (n : Int) + (s.size : Int) := by omega
        rw [decide_eq_false h3]
        go_enter Try.func19, Try.ntmps19
        go_wp2
        go_ret
        exact ⟨rfl, rfl⟩
    · have d2 : (1048576 : Int) < (s.size : Int) := by omega
      rw [decide_eq_false (by omega)]
      go_enter Try.func19, Try.ntmps19
      go_wp2
      go_ret
      exact ⟨rfl, rfl⟩
  · have d1 : (1048576 : Int) < (n : Int) := by omega
    rw [decide_eq_false (by omega)]
    go_enter Try.func19, Try.ntmps19
    go_wp2
    go_ret
    exact ⟨rfl, rfl⟩

theorem law5_no (a : Option Addr) (n c : Nat) (has : Bool) (s : ByteArray) (q hp : Int) (w : World) (hn : ¬ n + s.size ≤ 1048576) :
    Calls Try.prog 5 #[.slice a n c, .bool has, .string s, .int .u64 q, .int .u32 hp] w fun e w' => e = .returned (.bool true) ∧ Below w.heap.size w w' := by
  have HC := bytes19 a n c has s q hp w
  rw [decide_eq_false hn] at HC
  go_enter Try.func5, Try.ntmps5
  go_wp2_with fail
  refine HC.mono ?_
  rintro e w' ⟨rfl, hw⟩
  rw [hw]; clear hw w' HC
  go_wp2_with fail
  go_ret
  exact ⟨rfl, Below.refl _ _⟩

theorem Gr.below {w w' : World} {B : Nat} {has : Bool} {v : Value} {s : ByteArray} {q hp : Int} (h : Gr w B has v s q hp) (hb : Below w.heap.size w w') : Gr w' B has v s q hp := by
  rcases h with h | ⟨h1, b, h2, h3, h4⟩
  · exact .inl h
  · exact .inr ⟨h1, b, h2, h3.below hb, h4⟩
theorem Gr.zero {w : World} {B : Nat} {has : Bool} {v : Value} {s : ByteArray} {q hp : Int} (h : Gr w B has v s q hp) : Gr w 0 has v s q hp := by
  rcases h with h | ⟨h1, b, h2, h3, h4⟩
  · exact .inl h
  · exact .inr ⟨h1, b, h2, h3, Nat.zero_le _⟩
theorem Gr.form {w : World} {B : Nat} {has : Bool} {v : Value} {s : ByteArray} {q hp : Int} (h : Gr w B has v s q hp) : ∃ p, v = .agg #[.pointer p] := by
  rcases h with ⟨_, h⟩ | ⟨_, b, h, _⟩
  · exact ⟨_, h⟩
  · exact ⟨_, h⟩

/-- makeGraft, cloneBytes, ZZAppendGraft, in a row: the contract of the third behind the two. -/
theorem made {B n q hp : Nat} {has : Bool} {v sv : Value} {zs : List Int} {s : ByteArray} {w w1 w2 : World} (hG : Gr w1 B has v s (q : Int) (hp : Int)) (h2 : w2.ownsRow w1.heap.size 5 1 sv n (bc zs)) (hb2 : Below w1.heap.size w1 w2)
    (hb1 : Below w.heap.size w w1) (hn : n ≤ 1048576) (hs : s.size ≤ 1048576) (hq : q < 18446744073709551616) (hh : hp < 4294967296) :
    Calls Try.prog 20 #[v, sv] w2 fun e w' => ∃ a c, e = .returned (.slice a (n + (grL has s q hp).length) c) ∧ Hid (Lies w' a (zs ++ grL has s q hp) ∧ (zs ++ grL has s q hp).length = n + (grL has s q hp).length ∧ Below w.heap.size w w') := by
  refine (graft_any w1.heap.size n q hp has v sv zs s w2 h2 hb2.size (by omega) (by omega) hq hh (hG.below hb2).zero ?_).mono ?_
  · intro b hv e
    have := (h2.lt b e).1
    rcases hG with ⟨_, hv'⟩ | ⟨_, b', hv', hA, _⟩
    · rw [hv] at hv'
      simp at hv'
    · rw [hv] at hv'
      simp at hv'
      have := hA.lt
      omega
  · rintro e w' ⟨v', rfl, g⟩
    obtain ⟨a, c, rfl, hl, _, L, _⟩ := owns_lies g.own
    exact ⟨a, c, rfl, L, hl, Below.then hb1 (hb2.trans (g.below hb2.size (fun k hk => (h2.lt k hk).1)))⟩

set_option maxRecDepth 100000 in
set_option maxHeartbeats 1000000 in
theorem law5_null (a : Option Addr) (n c q hp : Nat) (s : ByteArray) (zs : List Int) (w : World) (hz : zs.length = n) (hn : n + s.size ≤ 1048576) (ha : a = none → n = 0 ∧ c = 0) (hc : Lies w a zs) (hq : q < 18446744073709551616) (hh : hp < 4294967296) :
    Calls Try.prog 5 #[.slice a n c, .bool false, .string s, .int .u64 (q : Int), .int .u32 (hp : Int)] w fun e w' => e = .returned (.bool true) ∧ Below w.heap.size w w' := by
  have HC := bytes19 a n c false s q hp w
  rw [decide_eq_true hn] at HC
  have d1 : ¬ (1048576 : Int) < (n : Int) := by omega
  have d2 : ¬ (1048576 : Int) < (s.size : Int) := by omega
  have d3 : ¬ (1048576 : Int) < (n : Int) + (s.size : Int) := by omega
  have H := hid (And.intro hz (And.intro hn (And.intro ha (And.intro hc (And.intro hq hh)))))
  have hln : (hd 4 1).length = 1 := rfl
  have hg : grL false s q hp = hd 4 1 ++ [246] := rfl
  clear hz hn ha hc hq hh
  go_enter Try.func5, Try.ntmps5
  go_wp2_with fail
  refine HC.mono ?_
  rintro e w' ⟨rfl, hw⟩
  rw [hw]; clear hw w' HC
  go_wp2_with fail
  refine (mk_any false s (q : Int) (hp : Int) w).mono ?_
  rintro e w1 ⟨v, rfl, hG, hb1⟩
  obtain ⟨pp, rfl⟩ := hG.form
  have HG := hid (And.intro hG hb1)
  clear hG hb1
  go_wp2_with fail
  refine (clone_own a n c zs w1 H.out.1 (by have := H.out; omega) H.out.2.2.1 (H.out.2.2.2.1.below HG.out.2)).mono ?_
  rintro e w2 ⟨sv, rfl, h2, hb2⟩
  have HM := made HG.out.1 h2 hb2 HG.out.2 (by have := H.out; omega) (by have := H.out; omega) H.out.2.2.2.2.1 H.out.2.2.2.2.2
  clear h2 hb2
  go_wp2_with fail
  refine HM.mono ?_
  rintro e w3 ⟨a3, c3, rfl, H3⟩
  clear HM HG
  obtain ⟨N, hN⟩ : ∃ N, N = n + (grL false s q hp).length := ⟨_, rfl⟩
  rw [← hN] at H3 ⊢
  have HP := prefix_any a3 a N n c3 c zs (grL false s q hp) w3 H.out.1 (by have := H3.out.2.1; rw [List.length_append] at this; exact this) (by have := H.out; omega) H3.out.1 (H.out.2.2.2.1.below H3.out.2.2)
  have hN2 : N = n + 2 := by rw [hN, hg, List.length_append, hln]; rfl
  have HN2 := hid hN2
  clear hN2
  clear hN
  go_wp2_with fail
  refine HP.mono ?_
  rintro e w4 ⟨rfl, k4, hw4⟩
  have L4 : Lies w4 a3 (zs ++ grL false s q hp) := by rw [hw4]; exact H3.out.1
  have B4 : Below w.heap.size w w4 := by rw [hw4]; exact below_drewN' H3.out.2.2 k4
  have HE := expect_at a3 N c3 4 1 n (n + 1) _ zs [246] w4 (by have := H.out; have := HN2.out; omega) H3.out.2.1 (by omega) (by omega) L4 (by rw [hg, List.append_assoc]) H.out.1 (by rw [hln])
  obtain ⟨b3, o3, rfl, g3⟩ := addr_of L4 (by rw [H3.out.2.1]; have := HN2.out; omega)
  have gc : w4.cell? ⟨b3, o3 + (n + 1), none⟩ = some (.int .u8 246) := by
    rw [g3 (n + 1) (by rw [H3.out.2.1]; have := HN2.out; omega), hg]
    have := getD_mid zs (hd 4 1 ++ [246]) [] 1 (by simp [hln])
    rw [H.out.1, List.append_nil] at this
    rw [this]
    rfl
  have HB4 := hid B4
  clear hw4 HP L4 B4 g3 hg hln
  go_wp2_with fail
  refine HE.mono ?_
  rintro e w' ⟨rfl, hw⟩
  rw [hw]; clear hw w' HE
  have hlt : (n : Int) + 1 < (N : Int) := by have := HN2.out; omega
  have heq : (n : Int) + 1 + 1 = (N : Int) := by have := HN2.out; omega
  go_wp2
  go_ret
  exact ⟨rfl, HB4.out⟩

set_option maxRecDepth 100000 in
set_option maxHeartbeats 1000000 in
theorem law5_of (a : Option Addr) (n c q hp : Nat) (s : ByteArray) (zs : List Int) (w : World) (hz : zs.length = n) (hn : n + s.size ≤ 1048576) (ha : a = none → n = 0 ∧ c = 0) (hc : Lies w a zs) (hq : q < 18446744073709551616) (hh : hp < 4294967296) :
    Calls Try.prog 5 #[.slice a n c, .bool true, .string s, .int .u64 (q : Int), .int .u32 (hp : Int)] w fun e w' => e = .returned (.bool true) ∧ Below w.heap.size w w' := by
  have HC := bytes19 a n c true s q hp w
  rw [decide_eq_true hn] at HC
  have d1 : ¬ (1048576 : Int) < (n : Int) := by omega
  have d2 : ¬ (1048576 : Int) < (s.size : Int) := by omega
  have d3 : ¬ (1048576 : Int) < (n : Int) + (s.size : Int) := by omega
  have H := hid (And.intro hz (And.intro hn (And.intro ha (And.intro hc (And.intro hq hh)))))
  have hg : grL true s q hp = hd 4 1 ++ (hd 4 2 ++ (hd 4 2 ++ (hd 3 s.size ++ sb s) ++ hd 0 q) ++ hd 0 hp) := rfl
  have HG0 := hid hg
  have hwu : (hp : Int) % 18446744073709551616 = (hp : Int) := by omega
  clear hz hn ha hc hq hh hg
  go_enter Try.func5, Try.ntmps5
  go_wp2_with fail
  refine HC.mono ?_
  rintro e w' ⟨rfl, hw⟩
  rw [hw]; clear hw w' HC
  go_wp2_with fail
  refine (mk_any true s (q : Int) (hp : Int) w).mono ?_
  rintro e w1 ⟨v, rfl, hG, hb1⟩
  obtain ⟨pp, rfl⟩ := hG.form
  have HG := hid (And.intro hG hb1)
  clear hG hb1
  go_wp2_with fail
  refine (clone_own a n c zs w1 H.out.1 (by have := H.out; omega) H.out.2.2.1 (H.out.2.2.2.1.below HG.out.2)).mono ?_
  rintro e w2 ⟨sv, rfl, h2, hb2⟩
  have HM := made HG.out.1 h2 hb2 HG.out.2 (by have := H.out; omega) (by have := H.out; omega) H.out.2.2.2.2.1 H.out.2.2.2.2.2
  clear h2 hb2
  go_wp2_with fail
  refine HM.mono ?_
  rintro e w3 ⟨a3, c3, rfl, H3⟩
  clear HM HG
  obtain ⟨N, hN⟩ : ∃ N, N = n + (grL true s q hp).length := ⟨_, rfl⟩
  rw [← hN] at H3 ⊢
  have hlen : N ≤ 4194304 := by
    rw [hN, HG0.out]
    have := H.out
    have := hd_length_le 4 1
    have := hd_length_le 4 2
    have := hd_length_le 3 s.size
    have := hd_length_le 0 q
    have := hd_length_le 0 hp
    simp only [List.length_append, sb_length]
    omega
  have HP := prefix_any a3 a N n c3 c zs (grL true s q hp) w3 H.out.1 (by have := H3.out.2.1; rw [List.length_append] at this; exact this) (by have := H.out; omega) H3.out.1 (H.out.2.2.2.1.below H3.out.2.2)
  have HN := hid (And.intro hN hlen)
  clear hN hlen
  have hlt : (n : Int) ≤ (N : Int) := by have := HN.out; omega
  go_wp2_with fail
  refine HP.mono ?_
  rintro e w4 ⟨rfl, k4, hw4⟩
  have L4 : Lies w4 a3 (zs ++ grL true s q hp) := by rw [hw4]; exact H3.out.1
  have B4 : Below w.heap.size w w4 := by rw [hw4]; exact below_drewN' H3.out.2.2 k4
  obtain ⟨ys, hys⟩ : ∃ ys, ys = zs ++ grL true s q hp := ⟨_, rfl⟩
  rw [← hys] at L4
  have HY := hid (And.intro hys (show ys.length = N by rw [hys]; exact H3.out.2.1))
  -- the places
  obtain ⟨i1, hi1⟩ : ∃ i, n + (hd 4 1).length = i := ⟨_, rfl⟩
  obtain ⟨i2, hi2⟩ : ∃ i, i1 + (hd 4 2).length = i := ⟨_, rfl⟩
  obtain ⟨i3, hi3⟩ : ∃ i, i2 + (hd 4 2).length = i := ⟨_, rfl⟩
  obtain ⟨i4, hi4⟩ : ∃ i, i3 + (hd 3 s.size).length + s.size = i := ⟨_, rfl⟩
  obtain ⟨i5, hi5⟩ : ∃ i, i4 + (hd 0 q).length = i := ⟨_, rfl⟩
  obtain ⟨i6, hi6⟩ : ∃ i, i5 + (hd 0 hp).length = i := ⟨_, rfl⟩
  have hend : i6 = N := by
    rw [HN.out.1, HG0.out, ← hi6, ← hi5, ← hi4, ← hi3, ← hi2, ← hi1]
    simp only [List.length_append, sb_length]
    omega
  have E1 := expect_at a3 N c3 4 1 n i1 ys zs (hd 4 2 ++ (hd 4 2 ++ (hd 3 s.size ++ sb s) ++ hd 0 q) ++ hd 0 hp) w4 HN.out.2 HY.out.2 (by omega) (by omega) L4 (by rw [HY.out.1, HG0.out]; simp only [List.append_assoc]) H.out.1 hi1
  have E2 := expect_at a3 N c3 4 2 i1 i2 ys (zs ++ hd 4 1) (hd 4 2 ++ (hd 3 s.size ++ sb s) ++ hd 0 q ++ hd 0 hp) w4 HN.out.2 HY.out.2 (by omega) (by omega) L4 (by rw [HY.out.1, HG0.out]; simp only [List.append_assoc]) (by rw [List.length_append, H.out.1]; exact hi1) hi2
  have E3 := expect_at a3 N c3 4 2 i2 i3 ys (zs ++ hd 4 1 ++ hd 4 2) (hd 3 s.size ++ sb s ++ hd 0 q ++ hd 0 hp) w4 HN.out.2 HY.out.2 (by omega) (by omega) L4 (by rw [HY.out.1, HG0.out]; simp only [List.append_assoc]) (by rw [List.length_append, List.length_append, H.out.1, hi1]; exact hi2) hi3
  have E4 := etext_at a3 N c3 i3 i4 ys (zs ++ hd 4 1 ++ hd 4 2 ++ hd 4 2) (hd 0 q ++ hd 0 hp) s w4 HN.out.2 HY.out.2 L4 (by rw [HY.out.1, HG0.out]; simp only [List.append_assoc]) (by rw [List.length_append, List.length_append, List.length_append, H.out.1, hi1, hi2]; exact hi3) hi4
  have E5 : ∀ w5, Lies w5 a3 ys → Calls Try.prog 13 #[.slice a3 N c3, .int .i64 (i4 : Int), .int .u8 0, .int .u64 (q : Int)] w5 fun e w' => e = .returned (.tuple #[.int .i64 (i5 : Int), .bool true]) ∧ w' = w5 := fun w5 L5 =>
    expect_at a3 N c3 0 q i4 i5 ys (zs ++ hd 4 1 ++ hd 4 2 ++ hd 4 2 ++ hd 3 s.size ++ sb s) (hd 0 hp) w5 HN.out.2 HY.out.2 (by omega) H.out.2.2.2.2.1 L5 (by rw [HY.out.1, HG0.out]; simp only [List.append_assoc]) (by rw [List.length_append, List.length_append, List.length_append, List.length_append, List.length_append, H.out.1, hi1, hi2, hi3, sb_length]; exact hi4) hi5
  have E6 : ∀ w5, Lies w5 a3 ys → Calls Try.prog 13 #[.slice a3 N c3, .int .i64 (i5 : Int), .int .u8 0, .int .u64 (hp : Int)] w5 fun e w' => e = .returned (.tuple #[.int .i64 (i6 : Int), .bool true]) ∧ w' = w5 := fun w5 L5 =>
    expect_at a3 N c3 0 hp i5 i6 ys (zs ++ hd 4 1 ++ hd 4 2 ++ hd 4 2 ++ hd 3 s.size ++ sb s ++ hd 0 q) [] w5 HN.out.2 HY.out.2 (by omega) (by have := H.out; omega) L5 (by rw [HY.out.1, HG0.out]; simp only [List.append_assoc, List.append_nil]) (by rw [List.length_append, List.length_append, List.length_append, List.length_append, List.length_append, List.length_append, H.out.1, hi1, hi2, hi3, sb_length, hi4]; exact hi5) hi6
  have HB4 := hid B4
  have HL4 := hid L4
  subst hend
  clear hw4 HP L4 B4 hi1 hi2 hi3 hi4 hi5 hi6 hys H3
  go_wp2_with fail
  refine E1.mono ?_
  rintro e w' ⟨rfl, hw⟩
  rw [hw]; clear hw w' E1
  go_wp2_with fail
  refine E2.mono ?_
  rintro e w' ⟨rfl, hw⟩
  rw [hw]; clear hw w' E2
  go_wp2_with fail
  refine E3.mono ?_
  rintro e w' ⟨rfl, hw⟩
  rw [hw]; clear hw w' E3
  go_wp2_with fail
  refine E4.mono ?_
  rintro e w5 ⟨rfl, k5, hw5⟩
  have L5 : Lies w5 a3 ys := by rw [hw5]; exact HL4.out
  have B5 := hid (show Below w.heap.size w w5 by rw [hw5]; exact below_drewN' HB4.out k5)
  have F5 := E5 w5 L5
  have F6 := E6 w5 L5
  clear hw5 L5 E4 E5 E6
  go_wp2_with fail
  refine F5.mono ?_
  rintro e w' ⟨rfl, hw⟩
  rw [hw]; clear hw w' F5
  go_wp2_with fail
  refine F6.mono ?_
  rintro e w' ⟨rfl, hw⟩
  rw [hw]; clear hw w' F6
  go_wp2
  go_ret
  exact ⟨by simp, B5.out⟩

theorem law5_any (a : Option Addr) (n c : Nat) (has : Bool) (q hp : Int) (s : ByteArray) (zs : List Int) (w : World) (hz : zs.length = n) (ha : a = none → n = 0 ∧ c = 0) (hc : Lies w a zs) (hq : 0 ≤ q ∧ q ≤ 18446744073709551615) (hh : 0 ≤ hp ∧ hp ≤ 4294967295) :
    Calls Try.prog 5 #[.slice a n c, .bool has, .string s, .int .u64 q, .int .u32 hp] w fun e w' => e = .returned (.bool true) ∧ Below w.heap.size w w' := by
  obtain ⟨q', rfl⟩ := Int.eq_ofNat_of_zero_le hq.1
  obtain ⟨h', rfl⟩ := Int.eq_ofNat_of_zero_le hh.1
  by_cases hn : n + s.size ≤ 1048576
  · cases has with
    | false => exact law5_null a n c q' h' s zs w hz hn ha hc (by omega) (by omega)
    | true => exact law5_of a n c q' h' s zs w hz hn ha hc (by omega) (by omega)
  · exact law5_no a n c has s _ _ w hn
end Go.Proofs.Qxb6608763a
