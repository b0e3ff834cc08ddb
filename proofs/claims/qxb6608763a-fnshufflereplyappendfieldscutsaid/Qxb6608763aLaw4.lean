/-
  Seat b6608763a: the walk of FnShuffleReplyAppendFieldsCut. By an AI agent.
-/
import Derived.Test.Qxb6608763aLaw3
import Derived.Test.Qxb6608763aCat
namespace Go.Proofs.Qxb6608763a
open Go.RowKit

set_option maxRecDepth 100000 in
set_option maxHeartbeats 400000 in
theorem bytes15 (a0 a : Option Addr) (n c0 m c : Nat) (x : Int) (ss : List ByteArray) (w : World) (hm : ss.length = m) (hmx : ∀ j, j < m → (ss.getD j ByteArray.empty).size ≤ maxLen) (h : SLies w a ss) :
    Calls Try.prog 15 #[.slice a0 n c0, .slice a m c, .int .i64 x] w fun e w' => Small e m ss ∧ w' = w := by
  by_cases h1 : n ≤ 1048576
  · have d1 : ¬ (1048576 : Int) < (n : Int) := by omega
    by_cases h2 : m ≤ 1048576
    · have d2 : ¬ (1048576 : Int) < (m : Int) := by omega
      by_cases h3 : n + m ≤ 1048576
      · have d3 : ¬ (1048576 : Int) < (n : Int) + (m : Int) := by omega
        have HX : Hid (0 < m → ∃ b o, a = some ⟨b, o, none⟩ ∧ ∀ j, j < m → w.cell? ⟨b, o + j, none⟩ = some (.string (ss.getD j ByteArray.empty))) := by
          intro h0
          obtain ⟨b, o, ha, g⟩ := saddr_of h (by omega)
          exact ⟨b, o, ha, fun j hj => g j (by omega)⟩
        have HMX := hid hmx
        clear h hm hmx
        go_enter Try.func15, Try.ntmps15
        go_wp2
        go_loop [7, 8] (fun acc i => ∃ k A : Nat, k ≤ m ∧ i = .int .i64 (k : Int) ∧ acc = .int .i64 (A : Int) ∧ A ≤ 1048576 ∧ Hid (∀ j, j < k → (ss.getD j ByteArray.empty).size ≤ 1048576)) (fun _ i => m - (intOf i).toNat)
        case atStart => exact ⟨0, n + m, Nat.zero_le _, rfl, by simp, h3, fun j hj => by omega⟩
        case round =>
          obtain ⟨k, A, hk, rfl, rfl, hA, hAll⟩ := hrel
          by_cases hlt : k < m
          · obtain ⟨b, o, rfl, gx⟩ := HX.out (by omega)
            have g := gx k hlt
            have hz := HMX.out k hlt
            obtain ⟨z, hzz⟩ : ∃ z, z = ss.getD k ByteArray.empty := ⟨_, rfl⟩
            rw [← hzz] at g hz
            have HZ := hid hzz
            have HZM := hid hz
            have hlt' : (k : Int) < (m : Int) := by omega
            clear gx hzz hz
            by_cases hz1 : z.size ≤ 1048576
            · have e1 : ¬ (1048576 : Int) < (z.size : Int) := by omega
              by_cases hz2 : A + z.size ≤ 1048576
              · have e2 : ¬ (1048576 : Int) < (A : Int) + (z.size : Int) := by omega
                go_wp2
                refine ⟨⟨k + 1, A + z.size, by omega, by go_num, by simp, hz2, ?_⟩, by simp [intOf]; omega⟩
                intro j hj
                by_cases hjk : j = k
                · rw [hjk, ← HZ.out]
                  exact hz1
                · exact hAll.out j (by omega)
              · have e2 : (1048576 : Int) < (A : Int) + (z.size : Int) := by omega
                go_wp2
                go_ret
                exact ⟨⟨false, rfl, (fun h => by cases h)⟩, rfl⟩
            · have e1 : (1048576 : Int) < (z.size : Int) := by omega
              go_wp2
              go_ret
              exact ⟨⟨false, rfl, (fun h => by cases h)⟩, rfl⟩
          · obtain rfl : k = m := by omega
            go_wp2
            go_ret
            exact ⟨⟨true, rfl, fun _ => hAll.out⟩, rfl⟩
      · have d3 : (1048576 : Int) < (n : Int) + (m : Int) := by omega
        clear h hm hmx
        go_enter Try.func15, Try.ntmps15
        go_wp2
        go_ret
        exact ⟨⟨false, rfl, (fun h => by cases h)⟩, rfl⟩
    · have d2 : (1048576 : Int) < (m : Int) := by omega
      clear h hm hmx
      go_enter Try.func15, Try.ntmps15
      go_wp2
      go_ret
      exact ⟨⟨false, rfl, (fun h => by cases h)⟩, rfl⟩
  · have d1 : (1048576 : Int) < (n : Int) := by omega
    clear h hm hmx
    go_enter Try.func15, Try.ntmps15
    go_wp2
    go_ret
    exact ⟨⟨false, rfl, (fun h => by cases h)⟩, rfl⟩

/-! ### itemsStart -/
set_option maxRecDepth 100000 in
set_option maxHeartbeats 400000 in
theorem items_at (a : Option Addr) (n c m N M : Nat) (zs p r : List Int) (w : World) (hn : n ≤ 4194304) (hl : zs.length = n) (hm : m ≤ 65536) (h : Lies w a zs) (hz : zs = p ++ hd 4 1 ++ hd 4 m ++ r) (hN : p.length = N) (hM : N + (hd 4 1).length + (hd 4 m).length = M) :
    Calls Try.prog 16 #[.slice a n c, .int .i64 (N : Int), .int .i64 (m : Int)] w fun e w' => e = .returned (.tuple #[.int .i64 (M : Int), .bool true]) ∧ w' = w := by
  obtain ⟨i1, hi1⟩ : ∃ i, N + (hd 4 1).length = i := ⟨_, rfl⟩
  have E1 := expect_at a n c 4 1 N i1 zs p (hd 4 m ++ r) w hn hl (by omega) (by omega) h (by rw [hz]; simp only [List.append_assoc]) hN hi1
  have E2 := expect_at a n c 4 m i1 M zs (p ++ hd 4 1) r w hn hl (by omega) (by omega) h (by rw [hz]) (by rw [List.length_append, hN]; exact hi1) (by rw [← hi1]; exact hM)
  have hwm : (m : Int) % 18446744073709551616 = (m : Int) := by omega
  clear h hn hl hm hz hN hM hi1
  go_enter Try.func16, Try.ntmps16
  go_wp2_with fail
  refine E1.mono ?_
  rintro e w' ⟨rfl, hw⟩
  rw [hw]; clear hw w' E1
  go_wp2_with fail
  refine E2.mono ?_
  rintro e w' ⟨rfl, hw⟩
  rw [hw]; clear hw w' E2
  go_wp2
  go_ret2
  exact ⟨rfl, rfl⟩

/-! ### Plain facts on the list -/
theorem wt_cut (ss : List ByteArray) (c : Nat) : wt (ss.take c) + wt (ss.drop c) = wt ss := by
  conv => rhs; rw [← List.take_append_drop c ss]
  unfold wt
  rw [List.map_append, List.sum_append]
theorem flL_cut (ss : List ByteArray) (c : Nat) : flL (ss.take c) ++ flL (ss.drop c) = flL ss := by
  conv => rhs; rw [← List.take_append_drop c ss]
  unfold flL
  rw [List.flatMap_append]
theorem flL_drop (ss : List ByteArray) (c : Nat) (h : c < ss.length) : flL (ss.drop c) = hd 3 (ss.getD c ByteArray.empty).size ++ (sb (ss.getD c ByteArray.empty) ++ flL (ss.drop (c + 1))) := by
  rw [List.drop_eq_getElem_cons h]
  show itL ss[c] ++ flL (ss.drop (c + 1)) = _
  unfold itL
  simp [List.getD, h]
theorem take_getD (ss : List ByteArray) (c j : Nat) (h : j < c) : (ss.take c).getD j ByteArray.empty = ss.getD j ByteArray.empty := by simp [List.getD, h]
theorem drop_getD (ss : List ByteArray) (c j : Nat) : (ss.drop c).getD j ByteArray.empty = ss.getD (c + j) ByteArray.empty := by simp [List.getD]

/-- A row, from a place on. -/
theorem lies_cut {w : World} {b o cp i N : Nat} {ys p r : List Int} (h : Lies w (some ⟨b, o, none⟩) ys) (hN : ys.length = N) (hcp : N ≤ cp) (hy : ys = p ++ r) (hi : p.length = i) :
    Lies w (if cp = i then some ⟨b, o, none⟩ else some ⟨b, o + i, none⟩) r := by
  intro j hj
  have hl : p.length + r.length = N := by rw [← hN, hy, List.length_append]
  rw [if_neg (by omega)]
  refine ⟨_, rfl, ?_⟩
  obtain ⟨x, hx, hc⟩ := h (i + j) (by omega)
  obtain rfl := Option.some.inj hx
  rw [Addr.add_lit] at hc ⊢
  rw [Nat.add_assoc, hc, hy, ← hi, getD_right]

theorem law4_early (a0 a : Option Addr) (n c0 m c : Nat) (x : Int) (ss : List ByteArray) (w : World) (hm : ss.length = m) (hmx : ∀ j, j < m → (ss.getD j ByteArray.empty).size ≤ maxLen) (h : SLies w a ss) (he : ¬ (n ≤ 1048576 ∧ m ≤ 65536)) :
    Calls Try.prog 4 #[.slice a0 n c0, .slice a m c, .int .i64 x] w fun e w' => e = .returned (.bool true) ∧ Below w.heap.size w w' := by
  have HC := bytes15 a0 a n c0 m c x ss w hm hmx h
  clear h hm hmx
  go_enter Try.func4, Try.ntmps4
  go_wp2_with fail
  refine HC.mono ?_
  rintro e w' ⟨⟨x, rfl, -⟩, hw⟩
  rw [hw]; clear hw w' HC
  cases x with
  | false =>
    go_wp2_with fail
    go_ret
    exact ⟨rfl, Below.refl _ _⟩
  | true =>
    by_cases h1 : n ≤ 1048576
    · have d1 : ¬ (1048576 : Int) < (n : Int) := by omega
      have d2 : decide ((65536 : Int) < (m : Int)) = true := decide_eq_true (by omega)
      clear he
      go_wp2_with fail
      go_ret
      exact ⟨rfl, Below.refl _ _⟩
    · have d1 : (1048576 : Int) < (n : Int) := by omega
      clear he
      go_wp2_with fail
      go_ret
      exact ⟨rfl, Below.refl _ _⟩

set_option maxRecDepth 100000 in
set_option maxHeartbeats 1000000 in
theorem law4_out (a0 a : Option Addr) (n c0 m c : Nat) (x : Int) (ss : List ByteArray) (w : World) (hn : n ≤ 1048576) (hm : ss.length = m) (hmb : m ≤ 65536) (hmx : ∀ j, j < m → (ss.getD j ByteArray.empty).size ≤ maxLen) (hS : SLies w a ss) (hx : x < 0 ∨ (m : Int) < x) :
    Calls Try.prog 4 #[.slice a0 n c0, .slice a m c, .int .i64 x] w fun e w' => e = .returned (.bool true) ∧ Below w.heap.size w w' := by
  have HC := bytes15 a0 a n c0 m c x ss w hm hmx hS
  have HC2 := fun hs => strs_any a n m c ss w hm hmb hn hs hS
  have d1 : ¬ (1048576 : Int) < (n : Int) := by omega
  have d3 : decide ((65536 : Int) < (m : Int)) = false := decide_eq_false (by omega)
  have HC2' := hid HC2
  clear hn hm hmb hmx hS HC2
  go_enter Try.func4, Try.ntmps4
  go_wp2_with fail
  refine HC.mono ?_
  rintro e w' ⟨⟨x', rfl, hx'⟩, hw⟩
  rw [hw]; clear hw w' HC
  cases x' with
  | false =>
    go_wp2_with fail
    go_ret
    exact ⟨rfl, Below.refl _ _⟩
  | true =>
    have HC2 := HC2'.out (hx' rfl)
    clear hx' HC2'
    go_wp2_with fail
    refine HC2.mono ?_
    rintro e w' ⟨r, rfl, hr, hw⟩
    rw [hw]; clear hw w' HC2
    by_cases hrb : r ≤ 1048576
    · have d2 : ¬ (1048576 : Int) < (r : Int) := by omega
      clear hrb hr
      by_cases h0 : x < 0
      · clear hx
        go_wp2_with fail
        go_ret
        exact ⟨rfl, Below.refl _ _⟩
      · have h1 : (m : Int) < x := by omega
        clear hx
        go_wp2_with fail
        go_ret
        exact ⟨rfl, Below.refl _ _⟩
    · have d2 : (1048576 : Int) < (r : Int) := by omega
      clear hrb hr
      go_wp2_with fail
      go_ret
      exact ⟨rfl, Below.refl _ _⟩

set_option maxRecDepth 100000 in
set_option maxHeartbeats 1000000 in
theorem law4_nil (a0 : Option Addr) (n c0 : Nat) (zs : List Int) (w : World) (hz : zs.length = n) (hn : n ≤ 1048576) (ha : a0 = none → n = 0 ∧ c0 = 0) (hc : Lies w a0 zs) :
    Calls Try.prog 4 #[.slice a0 n c0, .slice none 0 0, .int .i64 0] w fun e w' => e = .returned (.bool true) ∧ Below w.heap.size w w' := by
  have hnil := fun (w : World) (a : Option Addr) (n c : Nat) => Lib.run_eql_slice_nil (P := Try.prog) w 23 9 a n c 0 0 Try.underlying23
  have HC := bytes15 a0 none n c0 0 0 0 [] w rfl (fun j hj => by omega) (fun j hj => by simp at hj)
  have HC2 := strs_any none n 0 0 [] w rfl (by omega) hn (fun j hj => by omega) (fun j hj => by simp at hj)
  have d1 : ¬ (1048576 : Int) < (n : Int) := by omega
  have H := hid (And.intro hz (And.intro hn (And.intro ha hc)))
  have hln : (hd 4 1).length = 1 := rfl
  clear hz hn ha hc
  go_enter Try.func4, Try.ntmps4
  go_wp2_with fail
  refine HC.mono ?_
  rintro e w' ⟨⟨x, rfl, -⟩, hw⟩
  rw [hw]; clear hw w' HC
  cases x with
  | false =>
    go_wp2_with fail
    go_ret
    exact ⟨rfl, Below.refl _ _⟩
  | true =>
    go_wp2_with fail
    refine HC2.mono ?_
    rintro e w' ⟨r, rfl, hr, hw⟩
    rw [hw]; clear hw w' HC2
    by_cases hrb : r ≤ 1048576
    · have d2 : ¬ (1048576 : Int) < (r : Int) := by omega
      clear hrb hr
      go_wp2_with fail
      refine (ids_nil w).mono ?_
      rintro e w' ⟨rfl, hw⟩
      rw [hw]; clear hw w'
      go_wp2_with fail
      refine (clone_own a0 n c0 zs w H.out.1 (by have := H.out; omega) H.out.2.2.1 H.out.2.2.2).mono ?_
      rintro e w2 ⟨sv, rfl, h2, hb2⟩
      have HM := reply_nil w.heap.size n sv zs w2 h2 hb2.size (by have := H.out; omega)
      have HB2 := hid (And.intro h2 hb2)
      clear h2 hb2
      go_wp2_with fail
      refine HM.mono ?_
      rintro e w3 ⟨v3, rfl, g3⟩
      obtain ⟨a3, c3, rfl, hl3, -, L3, -⟩ := owns_lies g3.own
      have B3 : Below w.heap.size w w3 := HB2.out.2.trans (g3.below HB2.out.2.size (fun k hk => (HB2.out.1.lt k hk).1))
      obtain ⟨N, hN⟩ : ∃ N, N = n + (hd 4 1 ++ [246]).length := ⟨_, rfl⟩
      rw [← hN] at hl3 ⊢
      have hN2 : N = n + 2 := by rw [hN, List.length_append, hln]; rfl
      have H3 := hid (And.intro L3 (And.intro hl3 B3))
      have HP := prefix_any a3 a0 N n c3 c0 zs (hd 4 1 ++ [246]) w3 H.out.1 (by have h' := hl3; rw [List.length_append] at h'; exact h') (by have := H.out; omega) L3 (H.out.2.2.2.below B3)
      have HN2 := hid hN2
      clear HM g3 L3 hl3 B3 hN hN2 HB2
      go_wp2_with fail
      refine HP.mono ?_
      rintro e w4 ⟨rfl, k4, hw4⟩
      have L4 : Lies w4 a3 (zs ++ (hd 4 1 ++ [246])) := by rw [hw4]; exact H3.out.1
      have B4 : Below w.heap.size w w4 := by rw [hw4]; exact below_drewN' H3.out.2.2 k4
      obtain ⟨b3, o3, rfl, g3⟩ := addr_of L4 (by rw [H3.out.2.1]; have := HN2.out; omega)
      have gb : w4.cell? ⟨b3, o3 + n, none⟩ = some (.int .u8 129) := by
        have h' := g3 (n + 0) (by rw [H3.out.2.1]; have := HN2.out; omega)
        have := getD_mid zs (hd 4 1 ++ [246]) [] 0 (by simp [hln])
        rw [H.out.1, List.append_nil] at this
        rw [this] at h'
        exact h'
      have gc : w4.cell? ⟨b3, o3 + (n + 1), none⟩ = some (.int .u8 246) := by
        rw [g3 (n + 1) (by rw [H3.out.2.1]; have := HN2.out; omega)]
        have := getD_mid zs (hd 4 1 ++ [246]) [] 1 (by simp [hln])
        rw [H.out.1, List.append_nil] at this
        rw [this]
        rfl
      have HB4 := hid B4
      clear hw4 HP L4 B4 g3 hln
      have hlt0 : (n : Int) < (N : Int) := by have := HN2.out; omega
      have hlt : (n : Int) + 1 < (N : Int) := by have := HN2.out; omega
      have heq : (N : Int) = (n : Int) + 2 := by have := HN2.out; omega
      go_wp2
      go_ret
      exact ⟨by simp, HB4.out⟩
    · have d2 : (1048576 : Int) < (r : Int) := by omega
      clear hrb hr
      go_wp2_with fail
      go_ret
      exact ⟨rfl, Below.refl _ _⟩
end Go.Proofs.Qxb6608763a
