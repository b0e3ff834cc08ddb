/-
  Seat b6608763a: toIDs, stringsBytes, the bound on lengths. By an AI agent.
-/
import Derived.Test.Qxb6608763aList
namespace Go.Proofs.Qxb6608763a
open Go.RowKit

theorem Try.info45 : (Try.prog.info? 45).map (fun i => (i.zero, i.size, i.bytes)) = some (some (.string ByteArray.empty), 1, 16) := by kernel_rfl

/-! ### toIDs -/
theorem ids_nil (w : World) : Calls Try.prog 9 #[.slice none 0 0] w fun e w' => e = .returned (.slice none 0 0) ∧ w' = w := by
  have hnil := fun (w : World) (a : Option Addr) (n c : Nat) => Lib.run_eql_slice_nil (P := Try.prog) w 23 9 a n c 0 0 Try.underlying23
  go_enter Try.func9, Try.ntmps9
  go_wp2
  go_ret
  exact ⟨rfl, rfl⟩

/-- A row of strings laid cell by cell. -/
structure SPart (w wr : World) (g n k : Nat) (ss : List ByteArray) : Prop where
  row : ∃ cs : List Value, wr.heap[g]? = some (.cells cs.toArray 45 (0, 0)) ∧ cs.length = n ∧ ∀ j, j < k → cs[j]? = some (.string (ss.getD j ByteArray.empty))
  below : Below w.heap.size w wr
  ge : w.heap.size ≤ g

theorem SPart.next {w wr : World} {g n k : Nat} {ss : List ByteArray} (h : SPart w wr g n k ss) (hk : k < n) :
    (∃ u, wr.cell? ⟨g, k, none⟩ = some u) ∧ wr.frozen? ⟨g, k, none⟩ = false ∧ SPart w (wr.setCell ⟨g, k, none⟩ (.string (ss.getD k ByteArray.empty))) g n (k + 1) ss := by
  obtain ⟨⟨cs, h1, h2, h3⟩, hb, hg⟩ := h
  refine ⟨⟨cs[k]'(by omega), by rw [cell_of_block h1]; simp [h2, hk]⟩, frozen_of_block h1 k, ⟨⟨cs.set k (.string (ss.getD k ByteArray.empty)), ?_, by simp [h2], ?_⟩, hb.setCell (p := ⟨g, k, none⟩) hg _, hg⟩⟩
  · rw [heap_setCell_same _ _ k _ _ _ h1]
    simp
  · intro j hj
    rw [List.getElem?_set]
    by_cases hjk : k = j
    · subst hjk
      simp [h2, hk]
    · rw [if_neg hjk]
      exact h3 j (by omega)

/-- What toIDs hands back. -/
structure Ids (w w' : World) (g m : Nat) (ss : List ByteArray) : Prop where
  cells : ∀ j, j < m → w'.cell? ⟨g, 0 + j, none⟩ = some (.string (ss.getD j ByteArray.empty))
  ge : w.heap.size ≤ g
  lt : g < w'.heap.size
  below : Below w.heap.size w w'

theorem SPart.ids {w wr : World} {g m : Nat} {ss : List ByteArray} (h : SPart w wr g m m ss) : Ids w wr g m ss := by
  obtain ⟨⟨cs, h1, h2, h3⟩, hb, hg⟩ := h
  refine ⟨fun j hj => ?_, hg, Lib.lt_of_heap h1, hb⟩
  rw [Nat.zero_add, cell_of_block h1]
  simpa using h3 j hj

set_option maxRecDepth 100000 in
set_option maxHeartbeats 400000 in
theorem ids_some (x : Addr) (m c : Nat) (ss : List ByteArray) (w : World) (hm : ss.length = m) (hmb : m ≤ 65536) (hx : 0 < m → ∃ b o, x = ⟨b, o, none⟩ ∧ ∀ j, j < m → w.cell? ⟨b, o + j, none⟩ = some (.string (ss.getD j ByteArray.empty))) :
    Calls Try.prog 9 #[.slice (some x) m c] w fun e w' => ∃ g, e = .returned (.slice (some ⟨g, 0, none⟩) m m) ∧ Hid (Ids w w' g m ss) := by
  have hnil := fun (w : World) (a : Option Addr) (n c : Nat) => Lib.run_eql_slice_nil (P := Try.prog) w 23 9 a n c 0 0 Try.underlying23
  have hmk := run_make_row' (P := Try.prog) 26 45 (.string ByteArray.empty) 16 Try.underlying26 Try.info45 rfl .i64 .i64 m (by omega) (by omega)
  have HP : Hid (SPart w (w.alloc (.cells (madeCells #[.string ByteArray.empty] m) 45)) w.heap.size m 0 ss) :=
    ⟨⟨(madeCells #[.string ByteArray.empty] m).toList, by rw [alloc_at], by simp [size_madeCells], fun j hj => by omega⟩, (Below.refl _ _).alloc (Nat.le_refl _) _, Nat.le_refl _⟩
  obtain ⟨A, hA⟩ : ∃ A, A = madeCells #[.string ByteArray.empty] m := ⟨_, rfl⟩
  rw [← hA] at hmk HP
  have HX := hid hx
  clear hx hA
  go_enter Try.func9, Try.ntmps9
  go_wp2
  go_loopw [4] (fun i wr => ∃ k : Nat, k ≤ m ∧ i = .int .i64 k ∧ Hid (SPart w wr w.heap.size m k ss)) (fun i _ => m - (intOf i).toNat)
  case atStart => exact ⟨0, Nat.zero_le _, rfl, HP⟩
  case round =>
    obtain ⟨k, hk, rfl, hP⟩ := hrel
    by_cases hlt : k < m
    · obtain ⟨b, o, rfl, gx⟩ := HX.out (by omega)
      have g1 := gx k hlt
      have g2 : wr.cell? ⟨b, o + k, none⟩ = some (.string (ss.getD k ByteArray.empty)) := (hP.out.below.cell (World.block_lt_of_cell? _ _ g1)).trans g1
      obtain ⟨⟨u, cu⟩, fu, hP2⟩ := hP.out.next hlt
      obtain ⟨z, hzz⟩ : ∃ z, z = ss.getD k ByteArray.empty := ⟨_, rfl⟩
      rw [← hzz] at hP2 g2
      have HP2 := hid hP2
      have hlt' : (k : Int) < (m : Int) := by omega
      clear hP2 g1 hzz gx
      go_wp2
      go_roundw
      case rel => exact ⟨k + 1, by omega, by go_num, HP2⟩
      case measure => simp [intOf]; omega
    · obtain rfl : k = m := by omega
      go_wp2
      go_ret
      exact ⟨_, rfl, hP.out.ids⟩

/-! ### stringsBytes -/
def w16 (ss : List ByteArray) : Nat := (ss.map fun s => 16 + s.size).sum
theorem w16_snoc (ss : List ByteArray) (k : Nat) (h : k < ss.length) : w16 (ss.take (k + 1)) = w16 (ss.take k) + (16 + (ss.getD k ByteArray.empty).size) := by
  unfold w16
  rw [List.take_add_one, List.map_append, List.sum_append, List.getElem?_eq_getElem h]
  simp [List.getD, h]
theorem wt_le_w16 : ∀ ss : List ByteArray, wt ss ≤ w16 ss
  | [] => Nat.le_refl _
  | s :: r => by
    have h2 := wt_le_w16 r
    simp only [wt, w16, List.map_cons, List.sum_cons] at *
    omega

set_option maxRecDepth 100000 in
set_option maxHeartbeats 400000 in
theorem strs_any (a : Option Addr) (n m c : Nat) (ss : List ByteArray) (w : World) (hm : ss.length = m) (hmb : m ≤ 65536) (hn : n ≤ 1048576) (hs : ∀ j, j < m → (ss.getD j ByteArray.empty).size ≤ 1048576) (h : SLies w a ss) :
    Calls Try.prog 8 #[.int .i64 (n : Int), .slice a m c] w fun e w' => ∃ r : Nat, e = .returned (.int .i64 (r : Int)) ∧ Hid ((r ≤ 1048576 → n + w16 ss ≤ 1048576) ∧ r ≤ 4194304) ∧ w' = w := by
  have HS := hid hs
  have HX : Hid (0 < m → ∃ b o, a = some ⟨b, o, none⟩ ∧ ∀ j, j < m → w.cell? ⟨b, o + j, none⟩ = some (.string (ss.getD j ByteArray.empty))) := by
    intro h0
    obtain ⟨b, o, ha, g⟩ := saddr_of h (by omega)
    exact ⟨b, o, ha, fun j hj => g j (by omega)⟩
  have HM := hid hm
  clear h hs hm
  go_enter Try.func8, Try.ntmps8
  go_wp2
  go_loop [0, 5] (fun acc i => ∃ k A : Nat, k ≤ m ∧ i = .int .i64 (k : Int) ∧ acc = .int .i64 (A : Int) ∧ A ≤ 1048576 ∧ Hid (A = n + w16 (ss.take k))) (fun _ i => m - (intOf i).toNat)
  case atStart => exact ⟨0, n, Nat.zero_le _, rfl, rfl, hn, by unfold Hid; simp [w16]⟩
  case round =>
    obtain ⟨k, A, hk, rfl, rfl, hA, hAe⟩ := hrel
    by_cases hlt : k < m
    · obtain ⟨b, o, rfl, gx⟩ := HX.out (by omega)
      have g := gx k hlt
      have hz := HS.out k hlt
      have e1 := w16_snoc ss k (by rw [HM.out]; exact hlt)
      obtain ⟨z, hzz⟩ : ∃ z, z = ss.getD k ByteArray.empty := ⟨_, rfl⟩
      rw [← hzz] at g hz e1
      have HE := hid e1
      have hlt' : (k : Int) < (m : Int) := by omega
      clear gx hzz e1
      by_cases hbig : A + (16 + z.size) ≤ 1048576
      · have hb' : ¬ (1048576 : Int) < (A : Int) + (16 + (z.size : Int)) := by omega
        go_wp2
        refine ⟨⟨k + 1, A + (16 + z.size), by omega, by go_num, by simp, hbig, ?_⟩, by simp [intOf]; omega⟩
        unfold Hid
        rw [HE.out, hAe.out]
        omega
      · have hb' : (1048576 : Int) < (A : Int) + (16 + (z.size : Int)) := by omega
        go_wp2
        go_ret
        refine ⟨A + (16 + z.size), by simp, ⟨fun h => by omega, by omega⟩, rfl⟩
    · obtain rfl : k = m := by omega
      go_wp2
      go_ret
      refine ⟨A, rfl, ⟨fun _ => ?_, by omega⟩, rfl⟩
      have := hAe.out
      rw [List.take_of_length_le (by rw [HM.out]; exact Nat.le_refl _)] at this
      omega

/-- A bool came back; where it is true each string is short. -/
def Small (e : Ending) (m : Nat) (ss : List ByteArray) : Prop := ∃ x : Bool, e = .returned (.bool x) ∧ (x = true → ∀ j, j < m → (ss.getD j ByteArray.empty).size ≤ 1048576)

set_option maxRecDepth 100000 in
set_option maxHeartbeats 400000 in
theorem bytes7 (a0 a : Option Addr) (n c0 m c : Nat) (ss : List ByteArray) (w : World) (hm : ss.length = m) (hmx : ∀ j, j < m → (ss.getD j ByteArray.empty).size ≤ maxLen) (h : SLies w a ss) :
    Calls Try.prog 7 #[.slice a0 n c0, .slice a m c] w fun e w' => Small e m ss ∧ w' = w := by
  by_cases h1 : n ≤ 1048576
  · have d1 : ¬ (1048576 : Int) < (n : Int) := by omega
    by_cases h2 : m ≤ 1048576
    · have d2 : ¬ (1048576 : Int) < (m : Int) := by omega
      by_cases h3 : n + m ≤ 1048576
      · have d3 : ¬ (1048576 : Int) < (n : Int) + (m : Int) := by omega
        have HX : Hid (0 < m → ∃ b o, a = some ⟨b, o, none⟩ ∧ ∀ j, j < m → w.cell? ⟨b, o + j, none⟩ = some (.string (ss.getD j ByteArray.empty))) := by
          intro h0
          obtain ⟨b, o, ha, g⟩ := saddr_of h (by omega)
          exact ⟨b, o, ha, fun j hj => g j (by omega)⟩
        have HMX := hid hmx
        clear h hm hmx
        go_enter Try.func7, Try.ntmps7
        go_wp2
        go_loop [5, 6] (fun acc i => ∃ k A : Nat, k ≤ m ∧ i = .int .i64 (k : Int) ∧ acc = .int .i64 (A : Int) ∧ A ≤ 1048576 ∧ Hid (∀ j, j < k → (ss.getD j ByteArray.empty).size ≤ 1048576)) (fun _ i => m - (intOf i).toNat)
        case atStart => exact ⟨0, n + m, Nat.zero_le _, rfl, by simp, h3, fun j hj => by omega⟩
        case round =>
          obtain ⟨k, A, hk, rfl, rfl, hA, hAll⟩ := hrel
          by_cases hlt : k < m
          · obtain ⟨b, o, rfl, gx⟩ := HX.out (by omega)
            have g := gx k hlt
            have hz := HMX.out k hlt
            obtain ⟨z, hzz⟩ : ∃ z, z = ss.getD k ByteArray.empty := ⟨_, rfl⟩
            rw [← hzz] at g hz
            have HZ := hid hzz
            have HZM := hid hz
            have hlt' : (k : Int) < (m : Int) := by omega
            clear gx hzz hz
            by_cases hz1 : z.size ≤ 1048576
            · have e1 : ¬ (1048576 : Int) < (z.size : Int) := by omega
              by_cases hz2 : A + z.size ≤ 1048576
              · have e2 : ¬ (1048576 : Int) < (A : Int) + (z.size : Int) := by omega
                go_wp2
                refine ⟨⟨k + 1, A + z.size, by omega, by go_num, by simp, hz2, ?_⟩, by simp [intOf]; omega⟩
                intro j hj
                by_cases hjk : j = k
                · rw [hjk, ← HZ.out]
                  exact hz1
                · exact hAll.out j (by omega)
              · have e2 : (1048576 : Int) < (A : Int) + (z.size : Int) := by omega
                go_wp2
                go_ret
                exact ⟨⟨false, rfl, (fun h => by cases h)⟩, rfl⟩
            · have e1 : (1048576 : Int) < (z.size : Int) := by omega
              go_wp2
              go_ret
              exact ⟨⟨false, rfl, (fun h => by cases h)⟩, rfl⟩
          · obtain rfl : k = m := by omega
            go_wp2
            go_ret
            exact ⟨⟨true, rfl, fun _ => hAll.out⟩, rfl⟩
      · have d3 : (1048576 : Int) < (n : Int) + (m : Int) := by omega
        clear h hm hmx
        go_enter Try.func7, Try.ntmps7
        go_wp2
        go_ret
        exact ⟨⟨false, rfl, (fun h => by cases h)⟩, rfl⟩
    · have d2 : (1048576 : Int) < (m : Int) := by omega
      clear h hm hmx
      go_enter Try.func7, Try.ntmps7
      go_wp2
      go_ret
      exact ⟨⟨false, rfl, (fun h => by cases h)⟩, rfl⟩
  · have d1 : (1048576 : Int) < (n : Int) := by omega
    clear h hm hmx
    go_enter Try.func7, Try.ntmps7
    go_wp2
    go_ret
    exact ⟨⟨false, rfl, (fun h => by cases h)⟩, rfl⟩
end Go.Proofs.Qxb6608763a
