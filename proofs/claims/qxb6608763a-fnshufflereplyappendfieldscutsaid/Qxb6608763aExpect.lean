/-
  Seat b6608763a: expectHead, expectText. By an AI agent.
-/
import Derived.Test.Qxb6608763aRead
import Derived.Test.Qxb6608763aText
namespace Go.Proofs.Qxb6608763a
open Go.RowKit

theorem getD_mid (p l r : List Int) (t : Nat) (h : t < l.length) : (p ++ l ++ r).getD (p.length + t) 0 = l.getD t 0 := by
  simp only [List.getD]
  rw [List.append_assoc, List.getElem?_append_right (by omega), Nat.add_sub_cancel_left, List.getElem?_append_left h]

theorem read_any (b o n c m v : Nat) (p r : List Int) (w : World) (hn : n ≤ 4194304) (hl : (p ++ hd m v ++ r).length = n) (hm : m < 8) (hv : v < 18446744073709551616)
    (h : ∀ j, j < n → w.cell? ⟨b, o + j, none⟩ = some (.int .u8 ((p ++ hd m v ++ r).getD j 0))) :
    Calls Try.prog 24 #[.slice (some ⟨b, o, none⟩) n c, .int .i64 (p.length : Int)] w fun e w' => e = .returned (.tuple #[.int .u8 (m : Int), .int .u64 (v : Int), .int .i64 ((p.length + (hd m v).length : Nat) : Int), .bool true]) ∧ w' = w := by
  have hlen : p.length + (hd m v).length ≤ n := by simp at hl; omega
  have hcell : ∀ t, t < (hd m v).length → w.cell? ⟨b, o + (p.length + t), none⟩ = some (.int .u8 ((hd m v).getD t 0)) := by
    intro t ht
    rw [h (p.length + t) (by omega), getD_mid p _ r t ht]
  by_cases h1 : v < 24
  · have e1 : hd m v = [((m * 32 + v : Nat) : Int)] := by unfold hd; rw [if_pos h1]
    rw [e1] at hcell hlen ⊢
    exact read1 b o n c p.length m v w (by simp at hlen; omega) hn hm h1 (by have := hcell 0 (by simp); simpa using this)
  · have go : ∀ (k code : Nat), hd m v = ((m * 32 + code : Nat) : Int) :: be k v → w.cell? ⟨b, o + p.length, none⟩ = some (.int .u8 ((m * 32 + code : Nat) : Int)) ∧ (∀ j, j < k → w.cell? ⟨b, o + (p.length + 1 + j), none⟩ = some (.int .u8 ((v / 256 ^ (k - 1 - j) % 256 : Nat) : Int))) ∧ p.length + 1 + k ≤ n ∧ (hd m v).length = 1 + k := by
      intro k code e1
      have hk : (hd m v).length = 1 + k := by rw [e1, List.length_cons, be_length]; omega
      refine ⟨?_, ?_, by omega, hk⟩
      · have := hcell 0 (by omega)
        rw [e1] at this
        simpa using this
      · intro j hj
        have := hcell (1 + j) (by omega)
        rw [e1] at this
        rw [← be_getD k v j hj, Nat.add_assoc p.length 1 j, this]
        congr 2
        rw [Nat.add_comm 1 j]
        rfl
    by_cases h2 : v < 256
    · obtain ⟨g1, g2, g3, g4⟩ := go 1 24 (by unfold hd; rw [if_neg h1, if_pos h2])
      rw [g4, ← Nat.add_assoc]
      exact read2 b o n c p.length m v w hn hm g3 (by omega) h2 g1 g2
    · by_cases h3 : v < 65536
      · obtain ⟨g1, g2, g3, g4⟩ := go 2 25 (by unfold hd; rw [if_neg h1, if_neg h2, if_pos h3])
        rw [g4, ← Nat.add_assoc]
        exact read3 b o n c p.length m v w hn hm g3 (by omega) h3 g1 g2
      · by_cases h4 : v < 4294967296
        · obtain ⟨g1, g2, g3, g4⟩ := go 4 26 (by unfold hd; rw [if_neg h1, if_neg h2, if_neg h3, if_pos h4])
          rw [g4, ← Nat.add_assoc]
          exact read4 b o n c p.length m v w hn hm g3 (by omega) h4 g1 g2
        · obtain ⟨g1, g2, g3, g4⟩ := go 8 27 (by unfold hd; rw [if_neg h1, if_neg h2, if_neg h3, if_neg h4])
          rw [g4, ← Nat.add_assoc]
          exact read5 b o n c p.length m v w hn hm g3 (by omega) hv g1 g2

set_option maxHeartbeats 400000 in
theorem expect_some (b o n c m v : Nat) (p r : List Int) (w : World) (hn : n ≤ 4194304) (hl : (p ++ hd m v ++ r).length = n) (hm : m < 8) (hv : v < 18446744073709551616)
    (h : ∀ j, j < n → w.cell? ⟨b, o + j, none⟩ = some (.int .u8 ((p ++ hd m v ++ r).getD j 0))) :
    Calls Try.prog 13 #[.slice (some ⟨b, o, none⟩) n c, .int .i64 (p.length : Int), .int .u8 (m : Int), .int .u64 (v : Int)] w fun e w' => e = .returned (.tuple #[.int .i64 ((p.length + (hd m v).length : Nat) : Int), .bool true]) ∧ w' = w := by
  have HC := read_any b o n c m v p r w hn hl hm hv h
  obtain ⟨N, hN⟩ : ∃ N, N = p.length + (hd m v).length := ⟨_, rfl⟩
  rw [← hN] at HC ⊢
  clear h hl hm hv hn hN
  go_enter Try.func13, Try.ntmps13
  go_wp2_with fail
  refine HC.mono ?_
  rintro e w' ⟨rfl, hw⟩
  rw [hw]; clear hw w'
  go_wp2
  go_ret2
  exact ⟨rfl, rfl⟩

/-- expectHead. -/
theorem expect_any (a : Option Addr) (n c m v : Nat) (p r : List Int) (w : World) (hn : n ≤ 4194304) (hl : (p ++ hd m v ++ r).length = n) (hm : m < 8) (hv : v < 18446744073709551616) (h : Lies w a (p ++ hd m v ++ r)) :
    Calls Try.prog 13 #[.slice a n c, .int .i64 (p.length : Int), .int .u8 (m : Int), .int .u64 (v : Int)] w fun e w' => e = .returned (.tuple #[.int .i64 ((p.length + (hd m v).length : Nat) : Int), .bool true]) ∧ w' = w := by
  obtain ⟨b, o, rfl, g⟩ := addr_of h (by have := hd_pos m v; simp; omega)
  exact expect_some b o n c m v p r w hn hl hm hv (fun j hj => g j (by omega))

set_option maxRecDepth 100000 in
set_option maxHeartbeats 400000 in
theorem etext_some (b o n c N : Nat) (p r : List Int) (s : ByteArray) (w : World) (hn : n ≤ 4194304) (hl : (p ++ hd 3 s.size ++ (sb s ++ r)).length = n) (hN : N = p.length + (hd 3 s.size).length)
    (h : ∀ j, j < n → w.cell? ⟨b, o + j, none⟩ = some (.int .u8 ((p ++ hd 3 s.size ++ (sb s ++ r)).getD j 0))) :
    Calls Try.prog 14 #[.slice (some ⟨b, o, none⟩) n c, .int .i64 (p.length : Int), .string s] w fun e w' => e = .returned (.tuple #[.int .i64 ((N + s.size : Nat) : Int), .bool true]) ∧ ∃ k, w' = w.drewN k := by
  have hsz : N + s.size ≤ n := by simp [sb_length] at hl; omega
  have HC := expect_some b o n c 3 s.size p (sb s ++ r) w hn hl (by omega) (by omega) h
  have HB : Hid (∀ t (ht : t < s.size), w.cell? ⟨b, o + (N + t), none⟩ = some (.int .u8 (((s[t]'ht).toNat : Nat) : Int))) := by
    intro t ht
    rw [h (N + t) (by omega)]
    congr 2
    have e := getD_mid (p ++ hd 3 s.size) (sb s) r t (by rw [sb_length]; exact ht)
    rw [List.append_assoc, List.length_append, ← hN] at e
    rw [e]
    have ht' : t < s.data.size := ht
    simp only [sb, List.getD, List.getElem?_map, Array.getElem?_toList]
    rw [Array.getElem?_eq_getElem ht']
    rfl
  rw [← hN] at HC
  have hw : (s.size : Int) % 18446744073709551616 = (s.size : Int) := by omega
  have hsz' : ¬ ((n : Int) - (N : Int) < (s.size : Int)) := by omega
  have HN := hid (And.intro hn hsz)
  clear h hl hN
  go_enter Try.func14, Try.ntmps14
  go_wp2_with fail
  refine HC.mono ?_
  rintro e w' ⟨rfl, hw⟩
  rw [hw]; clear hw w'
  go_wp2
  go_loopw [10] (fun t wr => (∃ T : Nat, T ≤ s.size ∧ t = .int .i64 (T : Int)) ∧ ∃ k, wr = w.drewN k) (fun t _ => s.size - (intOf t).toNat)
  case atStart => exact ⟨⟨0, Nat.zero_le _, rfl⟩, 0, rfl⟩
  case round =>
    obtain ⟨⟨T, hT, rfl⟩, k, rfl⟩ := hrel
    by_cases hlt : T < s.size
    · have g := HB.out T hlt
      have hlt' : (T : Int) < (s.size : Int) := by omega
      go_wp2
      go_quiet (fail)
      go_wp2
      go_roundw
      case rel => exact ⟨⟨T + 1, by omega, by go_num⟩, _, rfl⟩
      case measure => simp [intOf]; omega
    · obtain rfl : T = s.size := by omega
      go_wp2
      go_ret2
      exact ⟨rfl, k, rfl⟩

/-- expectText. -/
theorem etext_any (a : Option Addr) (n c : Nat) (p r : List Int) (s : ByteArray) (w : World) (hn : n ≤ 4194304) (hl : (p ++ hd 3 s.size ++ (sb s ++ r)).length = n) (h : Lies w a (p ++ hd 3 s.size ++ (sb s ++ r))) :
    Calls Try.prog 14 #[.slice a n c, .int .i64 (p.length : Int), .string s] w fun e w' => e = .returned (.tuple #[.int .i64 ((p.length + (hd 3 s.size).length + s.size : Nat) : Int), .bool true]) ∧ ∃ k, w' = w.drewN k := by
  obtain ⟨b, o, rfl, g⟩ := addr_of h (by have := hd_pos 3 s.size; simp; omega)
  exact etext_some b o n c _ p r s w hn hl rfl (fun j hj => g j (by omega))
end Go.Proofs.Qxb6608763a
