/-
  Seat b6608763a: concatBytes, sameBytes where they differ, the bounds on lengths. By an AI agent.
-/
import Derived.Test.Qxb6608763aLaw5
namespace Go.Proofs.Qxb6608763a
open Go.RowKit

/-! ### sameBytes where they differ -/
theorem differ_len (a1 a2 : Option Addr) (n m c1 c2 : Nat) (w : World) (h : n ≠ m) :
    Calls Try.prog 17 #[.slice a1 n c1, .slice a2 m c2] w fun e w' => e = .returned (.bool false) ∧ w' = w := by
  have h' : ¬ (n : Int) = (m : Int) := by omega
  clear h
  go_enter Try.func17, Try.ntmps17
  go_wp2
  go_ret
  exact ⟨rfl, rfl⟩

theorem getD_ext {xs ys : List Int} (hl : xs.length = ys.length) (h : ∀ j, j < xs.length → xs.getD j 0 = ys.getD j 0) : xs = ys := by
  apply List.ext_getElem hl
  intro i h1 h2
  have := h i h1
  simpa [List.getD, h1, h2] using this

set_option maxHeartbeats 400000 in
theorem differ_some (b1 o1 b2 o2 n c1 c2 : Nat) (xs ys : List Int) (w : World) (hn : n ≤ 4194304) (hx : xs.length = n) (hy : ys.length = n) (hne : xs ≠ ys)
    (h1 : ∀ j, j < n → w.cell? ⟨b1, o1 + j, none⟩ = some (.int .u8 (xs.getD j 0))) (h2 : ∀ j, j < n → w.cell? ⟨b2, o2 + j, none⟩ = some (.int .u8 (ys.getD j 0))) :
    Calls Try.prog 17 #[.slice (some ⟨b1, o1, none⟩) n c1, .slice (some ⟨b2, o2, none⟩) n c2] w fun e w' => e = .returned (.bool false) ∧ ∃ k, w' = w.drewN k := by
  have H := hid (And.intro hx (And.intro hy hne))
  have H1 := hid h1
  have H2 := hid h2
  clear hx hy hne h1 h2
  go_enter Try.func17, Try.ntmps17
  go_wp2
  go_loopw [5] (fun i wr => (∃ k : Nat, k ≤ n ∧ i = .int .i64 k ∧ Hid (∀ j, j < k → xs.getD j 0 = ys.getD j 0)) ∧ ∃ m, wr = w.drewN m) (fun i _ => n - (intOf i).toNat)
  case atStart => exact ⟨⟨0, Nat.zero_le _, rfl, fun j hj => by omega⟩, 0, rfl⟩
  case round =>
    obtain ⟨⟨k, hk, rfl, hall⟩, m, rfl⟩ := hrel
    by_cases hlt : k < n
    · have g1 := H1.out k hlt
      have g2 := H2.out k hlt
      have hlt' : (k : Int) < (n : Int) := by omega
      by_cases he : xs.getD k 0 = ys.getD k 0
      · have HA : Hid (∀ j, j < k + 1 → xs.getD j 0 = ys.getD j 0) := fun j hj => by
          by_cases hjk : j = k
          · rw [hjk]; exact he
          · exact hall.out j (by omega)
        rw [← he] at g2
        clear he
        generalize xs.getD k 0 = z at g1 g2
        go_wp2
        go_quiet (fail)
        go_wp2
        go_roundw
        case rel => exact ⟨⟨k + 1, by omega, by go_num, HA⟩, _, rfl⟩
        case measure => simp [intOf]; omega
      · generalize xs.getD k 0 = z1 at g1 he
        generalize ys.getD k 0 = z2 at g2 he
        go_wp2
        go_quiet (fail)
        go_wp2
        go_ret
        exact ⟨rfl, _, World.drewN_drewN ..⟩
    · exfalso
      obtain rfl : k = n := by omega
      exact H.out.2.2 (getD_ext (by rw [H.out.1, H.out.2.1]) (fun j hj => hall.out j (by rw [← H.out.1]; exact hj)))

theorem differ_any (a1 a2 : Option Addr) (n m c1 c2 : Nat) (xs ys : List Int) (w : World) (hx : xs.length = n) (hy : ys.length = m) (hn : n ≤ 4194304) (hne : xs ≠ ys) (h1 : Lies w a1 xs) (h2 : Lies w a2 ys) :
    Calls Try.prog 17 #[.slice a1 n c1, .slice a2 m c2] w fun e w' => e = .returned (.bool false) ∧ ∃ k, w' = w.drewN k := by
  by_cases hnm : n = m
  · subst hnm
    by_cases h0 : n = 0
    · subst h0
      exact absurd ((List.eq_nil_of_length_eq_zero hx).trans (List.eq_nil_of_length_eq_zero hy).symm) hne
    · obtain ⟨b1, o1, rfl, g1⟩ := addr_of h1 (by omega)
      obtain ⟨b2, o2, rfl, g2⟩ := addr_of h2 (by omega)
      exact differ_some b1 o1 b2 o2 n c1 c2 xs ys w hn hx hy hne (fun j hj => g1 j (by omega)) (fun j hj => g2 j (by omega))
  · refine (differ_len a1 a2 n m c1 c2 w hnm).mono ?_
    rintro e w' ⟨rfl, rfl⟩
    exact ⟨rfl, 0, rfl⟩

/-! ### concatBytes -/
theorem getD_left (zs ys : List Int) (k : Nat) (h : k < zs.length) : (zs ++ ys).getD k 0 = zs.getD k 0 := by simp [List.getD, List.getElem?_append, h]
theorem getD_right (zs ys : List Int) (k : Nat) : (zs ++ ys).getD (zs.length + k) 0 = ys.getD k 0 := by
  simp only [List.getD, List.getElem?_append, if_neg (show ¬ zs.length + k < zs.length by omega), Nat.add_sub_cancel_left]

set_option maxRecDepth 100000 in
set_option maxHeartbeats 400000 in
theorem cat_any (a1 a2 : Option Addr) (n m c1 c2 : Nat) (zs ys : List Int) (w : World) (hz : zs.length = n) (hy : ys.length = m) (hn : n + m ≤ 4194304) (h1 : Lies w a1 zs) (h2 : Lies w a2 ys) :
    Calls Try.prog 18 #[.slice a1 n c1, .slice a2 m c2] w fun e w' => ∃ a c, e = .returned (.slice a (n + m) c) ∧ Hid (Lies w' a (zs ++ ys) ∧ Below w.heap.size w w') := by
  have hmk := run_make_row' (P := Try.prog) 22 5 (.int .u8 0) 1 Try.underlying22 Try.info5 rfl .i64 .i64 (n + m) (by omega) (by omega)
  rw [Int.natCast_add] at hmk
  have HP : Hid (Part w (w.alloc (.cells (madeCells #[.int .u8 0] (n + m)) 5)) w.heap.size (n + m) 0 (zs ++ ys)) :=
    ⟨⟨(madeCells #[.int .u8 0] (n + m)).toList, by rw [alloc_at], by simp [size_madeCells], by simp [bc]⟩, (Below.refl _ _).alloc (Nat.le_refl _) _, Nat.le_refl _⟩
  obtain ⟨A, hA⟩ : ∃ A, A = madeCells #[.int .u8 0] (n + m) := ⟨_, rfl⟩
  rw [← hA] at hmk HP
  have H := hid (And.intro hz (And.intro hy (And.intro hn (And.intro h1 h2))))
  have hlz : (zs ++ ys).length = n + m := by rw [List.length_append, hz, hy]
  have HL := hid hlz
  have hnn : n ≤ 4194304 := by omega
  have hmm : m ≤ 4194304 := by omega
  clear hz hy h1 h2 hA hlz hn
  go_enter Try.func18, Try.ntmps18
  go_wp2
  go_loopw [6] (fun i wr => ∃ k : Nat, k ≤ n ∧ i = .int .i64 k ∧ Hid (Part w wr w.heap.size (n + m) k (zs ++ ys))) (fun i _ => n - (intOf i).toNat)
  case atStart => exact ⟨0, Nat.zero_le _, rfl, HP⟩
  case round =>
    obtain ⟨k, hk, rfl, hP⟩ := hrel
    by_cases hlt : k < n
    · obtain ⟨b, o, rfl, gx⟩ := addr_of H.out.2.2.2.1 (by rw [H.out.1]; omega)
      have g1 := gx k (by rw [H.out.1]; exact hlt)
      have g2 : wr.cell? ⟨b, o + k, none⟩ = some (.int .u8 (zs.getD k 0)) := (hP.out.below.cell (World.block_lt_of_cell? _ _ g1)).trans g1
      obtain ⟨⟨u, cu⟩, fu, hP2⟩ := hP.out.next (by omega) HL.out
      rw [getD_left zs ys k (by rw [H.out.1]; exact hlt)] at hP2
      obtain ⟨z, hzz⟩ : ∃ z, z = zs.getD k 0 := ⟨_, rfl⟩
      rw [← hzz] at hP2 g2
      have HP2 := hid hP2
      have hlt' : (k : Int) < (n : Int) := by omega
      have hlt2 : (k : Int) < (n : Int) + (m : Int) := by omega
      clear hP2 g1 hzz gx
      go_wp2
      go_roundw
      case rel => exact ⟨k + 1, by omega, by go_num, HP2⟩
      case measure => simp [intOf]; omega
    · obtain rfl : k = n := by omega
      clear HP
      have HP : Hid (Part w wr w.heap.size (k + m) (k + 0) (zs ++ ys)) := hP
      go_wp2
      go_loopw [7] (fun i wr => ∃ j : Nat, j ≤ m ∧ i = .int .i64 j ∧ Hid (Part w wr w.heap.size (k + m) (k + j) (zs ++ ys))) (fun i _ => m - (intOf i).toNat)
      case atStart => exact ⟨0, Nat.zero_le _, rfl, HP⟩
      case round =>
        clear HP hP
        obtain ⟨j, hj, rfl, hP⟩ := hrel
        by_cases hlt : j < m
        · obtain ⟨b, o, rfl, gx⟩ := addr_of H.out.2.2.2.2 (by rw [H.out.2.1]; omega)
          have g1 := gx j (by rw [H.out.2.1]; exact hlt)
          have g2 : wr.cell? ⟨b, o + j, none⟩ = some (.int .u8 (ys.getD j 0)) := (hP.out.below.cell (World.block_lt_of_cell? _ _ g1)).trans g1
          obtain ⟨⟨u, cu⟩, fu, hP2⟩ := hP.out.next (by omega) HL.out
          have hr := getD_right zs ys j
          rw [H.out.1] at hr
          rw [hr] at hP2
          obtain ⟨z, hzz⟩ : ∃ z, z = ys.getD j 0 := ⟨_, rfl⟩
          rw [← hzz] at hP2 g2
          have HP2 := hid hP2
          have hlt' : (j : Int) < (m : Int) := by omega
          have hlt2 : (k : Int) + (j : Int) < (k : Int) + (m : Int) := by omega
          clear hP2 g1 hzz gx hr
          go_wp2
          go_roundw
          case rel => exact ⟨j + 1, by omega, by go_num, HP2⟩
          case measure => simp [intOf]; omega
        · obtain rfl : j = m := by omega
          go_wp2
          go_ret
          obtain ⟨a, c, hv, hl, _, L, _⟩ := owns_lies (hP.out.owns HL.out H.out.2.2.1)
          refine ⟨_, _, rfl, ?_, hP.out.below⟩
          injection hv with h1 h2 h3
          rw [h1]
          exact L
end Go.Proofs.Qxb6608763a
