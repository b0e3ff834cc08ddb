/-
  Seat b6608669aD: (*bytes.Buffer).Write with a fine frame. By an AI agent.
-/
import Derived.Test.Qxb6608669aDoorGrow2
import Derived.Test.Qxb6608669aDoorGrow3
namespace Go.Proofs.Qxb6608669aDoor
open Go.RowKit

/-- A bytes.Buffer that has only been written, at block b, its row 'row' (none: nil), holding bs. -/
def Bf (b : Nat) (row : Option Nat) (bs : List Value) (w : World) : Prop :=
  ∃ lr, (row = none ∧ bs = [] ∧ w.heap[b]? = some (.cells #[.slice none 0 0, .int .i64 0, .int .i8 lr] 49 (0, 0))) ∨
    ∃ g cur, row = some g ∧ w.heap[b]? = some (.cells #[.slice (some ⟨g, 0, none⟩) bs.length cur.length, .int .i64 0, .int .i8 lr] 49 (0, 0)) ∧ Row w g cur ∧ bs.length ≤ cur.length ∧ cur.length ≤ maxLen ∧ cur.take bs.length = bs ∧ g ≠ b

/-- Of what was there, block b and the row alone may have turned. -/
structure Turn (w w' : World) (b : Nat) (row : Option Nat) : Prop where
  os : w'.os = w.os
  tape : w'.tape = w.tape
  output : w'.output = w.output
  size : w.heap.size ≤ w'.heap.size
  block : ∀ k, k < w.heap.size → k ≠ b → some k ≠ row → w'.heap[k]? = w.heap[k]?

theorem Turn.of_grown {w w' : World} {b : Nat} {row : Option Nat} (h : w.grownBy w' (some b)) : Turn w w' b row := ⟨h.os, h.tape, h.output, h.size, fun k hk hb _ => h.block k hk (by simpa using hb)⟩

/-- The tail of Write: the bytes are copied into the row. -/
theorem copied {w W : World} {b g l n : Nat} {row : Option Nat} {lr : Int} {cur bs cs : List Value} (hb : W.heap[b]? = some (.cells #[.slice (some ⟨g, 0, none⟩) (l + n) cur.length, .int .i64 0, .int .i8 lr] 49 (0, 0))) (hr : Row W g cur)
    (hl : l + n ≤ cur.length) (hm : cur.length ≤ maxLen) (ht : cur.take l = bs) (hgb : g ≠ b) (hbs : bs.length = l) (hcs : cs.length = n) (hT : Turn w W b row) (hg : some g = row ∨ w.heap.size ≤ g) :
    Bf b (some g) (bs ++ cs) (W.setRow g (cur.toArray.toList.take l ++ cs ++ cur.toArray.toList.drop (l + cs.length)).toArray) ∧ Turn w (W.setRow g (cur.toArray.toList.take l ++ cs ++ cur.toArray.toList.drop (l + cs.length)).toArray) b row := by
  rw [List.toList_toArray, hcs, ht]
  have hlen : (bs ++ cs ++ cur.drop (l + n)).length = cur.length := by simp [hbs, hcs]; omega
  refine ⟨⟨lr, .inr ⟨g, bs ++ cs ++ cur.drop (l + n), rfl, ?_, setRow_heap W g _ _ 5 (0, 0) hr, by rw [hlen]; simp; omega, by omega, ?_, hgb⟩⟩, ⟨hT.os, hT.tape, hT.output, by rw [setRow_size]; exact hT.size, fun k hk hkb hkr => ?_⟩⟩
  · rw [setRow_other _ _ _ _ (fun e => hgb e.symm), hb, hlen, List.length_append, hbs, hcs]
  · rw [List.take_left' rfl]
  · have hkg : k ≠ g := by
      rintro rfl
      rcases hg with h | h
      · exact hkr h
      · omega
    rw [setRow_other _ _ _ _ hkg]
    exact hT.block k hk hkb hkr

set_option maxRecDepth 100000 in
set_option maxHeartbeats 4000000 in
theorem write_room (b g l n c : Nat) (a : Addr) (lr : Int) (cur cs : List Value) (w : World) (hb : w.heap[b]? = some (.cells #[.slice (some ⟨g, 0, none⟩) l cur.length, .int .i64 0, .int .i8 lr] 49 (0, 0))) (hr : Row w g cur)
    (hm : cur.length ≤ maxLen) (hroom : l + n ≤ cur.length) (hn : 1 ≤ n) (hcs : cs.length = n) (hab : a.block ≠ b) (hgb : g ≠ b) (hsrc : ∀ j v, cs[j]? = some v → w.cell? (a.add j) = some v) (h1c : ∀ v ∈ cs, v.oneCell' = true) :
    Calls Tryd.prog 39 #[.pointer (some ⟨b, 0, none⟩), .slice (some a) n c] w fun e w' => e = .returned (.tuple #[.int .i64 (n : Int), .nilIface]) ∧ Bf b (some g) (cur.take l ++ cs) w' ∧ Turn w w' b (some g) := by
  obtain ⟨cap, hcap⟩ : ∃ cap, cap = cur.length := ⟨_, rfl⟩
  rw [← hcap] at hb hroom
  have hm' := hm
  unfold maxLen at hm'
  have c2 : w.cell? ⟨b, 2, none⟩ = some (.int .i8 lr) := by rw [cell_of_block hb]; rfl
  have f2 := frozen_of_block hb 2
  -- behind the two stores
  obtain ⟨w1, hw1⟩ : ∃ w1, w1 = w.setCell ⟨b, 2, none⟩ (.int .i8 0) := ⟨_, rfl⟩
  have hb1 : w1.heap[b]? = some (.cells #[.slice (some ⟨g, 0, none⟩) l cap, .int .i64 0, .int .i8 0] 49 (0, 0)) := by rw [hw1, Lib.heap_setCell_same (i := 2) hb]; rfl
  have c01 : w1.cell? ⟨b, 0, none⟩ = some (.slice (some ⟨g, 0, none⟩) l cap) := by rw [cell_of_block hb1]; rfl
  have f01 := frozen_of_block hb1 0
  obtain ⟨w2, hw2⟩ : ∃ w2, w2 = w1.setCell ⟨b, 0, none⟩ (.slice (some ⟨g, 0, none⟩) (l + n) cap) := ⟨_, rfl⟩
  have hb2 : w2.heap[b]? = some (.cells #[.slice (some ⟨g, 0, none⟩) (l + n) cap, .int .i64 0, .int .i8 0] 49 (0, 0)) := by rw [hw2, Lib.heap_setCell_same (i := 0) hb1]; rfl
  have c02 : w2.cell? ⟨b, 0, none⟩ = some (.slice (some ⟨g, 0, none⟩) (l + n) cap) := by rw [cell_of_block hb2]; rfl
  have g2 : w.grownBy w2 (some b) := by
    rw [hw2, hw1]
    exact Lib.grownBy_setB (Lib.grownBy_setCell w b 2 _) 0 _
  have hr2 : Row w2 g cur := hr.kept g2 (by simpa using hgb)
  have hsrc2 : ∀ j v, cs[j]? = some v → w2.cell? (a.add j) = some v := fun j v hj => g2.cell (hsrc j v hj) (by rw [Lib.block_add]; simpa using hab)
  have hcp := run_copy_row (P := Tryd.prog) w2 22 22 3 5 g l n (cap - l) a n c cur.toArray 5 cs Tryd.underlying22 Tryd.size5 hr2 (by rw [hcs]; exact (Nat.min_self n).symm) hsrc2 (by rw [hcs]; simp; omega) h1c
  have FIN := hid (copied (w := w) (row := some g) (cs := cs) (by rw [← hcap]; exact hb2) hr2 (by omega) hm rfl hgb (by simp; omega) hcs (Turn.of_grown g2) (.inl rfl))
  obtain ⟨w3, hw3⟩ : ∃ w3, w3 = w2.setRow g (cur.toArray.toList.take l ++ cs ++ cur.toArray.toList.drop (l + cs.length)).toArray := ⟨_, rfl⟩
  rw [← hw3] at hcp FIN
  rw [hcs] at hcp
  have hne : ¬ cap = l := by omega
  have hln : (l : Int) ≤ (l : Int) + (n : Int) := by omega
  have HW1 := hid hw1
  have HW2 := hid hw2
  have hcm : cap ≤ 9223372036854775807 := by omega
  have HCM := hid hcm
  clear hb hb1 hb2 hw3 hr hr2 g2 hsrc hsrc2 h1c hm hcap hw1 hw2 hcm
  go_enter Tryd.func39, Tryd.ntmps39
  go_wp2_with fail
  rw [← HW1.out]
  refine (try_room b g l cap n w1 c01 f01 HCM.out hroom).mono ?_
  rintro e w2' ⟨rfl, h2'⟩
  rw [h2', ← HW2.out]; clear h2' w2'
  go_wp2
  go_ret2
  exact ⟨rfl, FIN.out⟩

/-- Write where there is no room: the row and the length as they stand, whatever the make of it. -/
theorem write_grow (b l n c cap : Nat) (ao : Option Addr) (a : Addr) (lr : Int) (bs cs : List Value) (row : Option Nat) (w : World) (hb : w.heap[b]? = some (.cells #[.slice ao l cap, .int .i64 0, .int .i8 lr] 49 (0, 0)))
    (hl : l ≤ cap) (hcm : cap ≤ 9223372036854775807) (hno : cap - l < n) (hn : 1 ≤ n) (_hlim : l + n ≤ 140737488355328) (hcs : cs.length = n) (hbs : bs.length = l) (hab : a.block ≠ b) (hsrc : ∀ j v, cs[j]? = some v → w.cell? (a.add j) = some v) (h1c : ∀ v ∈ cs, v.oneCell' = true)
    (hG : ∀ w1 : World, w1 = w.setCell ⟨b, 2, none⟩ (.int .i8 0) → Calls Tryd.prog 50 #[.pointer (some ⟨b, 0, none⟩), .int .i64 (n : Int)] w1 fun e w' => e = .returned (.int .i64 (l : Int)) ∧ Grown b l n bs w1 w') :
    Calls Tryd.prog 39 #[.pointer (some ⟨b, 0, none⟩), .slice (some a) n c] w fun e w' => e = .returned (.tuple #[.int .i64 (n : Int), .nilIface]) ∧ ∃ k, w.heap.size ≤ k ∧ Bf b (some k) (bs ++ cs) w' ∧ Turn w w' b row := by
  have c2 : w.cell? ⟨b, 2, none⟩ = some (.int .i8 lr) := by rw [cell_of_block hb]; rfl
  have f2 := frozen_of_block hb 2
  obtain ⟨w1, hw1⟩ : ∃ w1, w1 = w.setCell ⟨b, 2, none⟩ (.int .i8 0) := ⟨_, rfl⟩
  have hb1 : w1.heap[b]? = some (.cells #[.slice ao l cap, .int .i64 0, .int .i8 0] 49 (0, 0)) := by rw [hw1, Lib.heap_setCell_same (i := 2) hb]; rfl
  have c01 : w1.cell? ⟨b, 0, none⟩ = some (.slice ao l cap) := by rw [cell_of_block hb1]; rfl
  have hG1 := hid (hG w1 hw1)
  have HW1 := hid hw1
  have HCM := hid hcm
  have HS := hid hsrc
  have H1C := hid h1c
  have HLT := hid (Lib.lt_of_heap hb)
  clear hG hb hb1 hw1 hcm hsrc h1c
  go_enter Tryd.func39, Tryd.ntmps39
  go_wp2_with fail
  rw [← HW1.out]
  refine (try_none b l cap n ao w1 c01 hl HCM.out hno).mono ?_
  rintro e w2' ⟨rfl, h2'⟩
  rw [h2']; clear h2' w2'
  go_wp2_with fail
  refine hG1.out.mono ?_
  rintro e w2 ⟨rfl, g, cur, lr2, hg1, hb2, hr2, hl2, hm2, ht2, gr2⟩
  have g2 : w.grownBy w2 (some b) := Lib.grownBy_trans (by rw [HW1.out]; exact Lib.grownBy_setCell w b 2 _) gr2
  have hsz : w.heap.size ≤ g := by have : w1.heap.size = w.heap.size := by rw [HW1.out, World.size_setCell]
                                   omega
  have hgb : g ≠ b := by have := HLT.out; omega
  have c02 : w2.cell? ⟨b, 0, none⟩ = some (.slice (some ⟨g, 0, none⟩) (l + n) cur.length) := by rw [cell_of_block hb2]; rfl
  have hsrc2 : ∀ j v, cs[j]? = some v → w2.cell? (a.add j) = some v := fun j v hj => g2.cell (HS.out j v hj) (by rw [Lib.block_add]; simpa using hab)
  have hcp := run_copy_row (P := Tryd.prog) w2 22 22 3 5 g l n (cur.length - l) a n c cur.toArray 5 cs Tryd.underlying22 Tryd.size5 hr2 (by rw [hcs]; exact (Nat.min_self n).symm) hsrc2 (by rw [hcs]; simp; omega) H1C.out
  have FIN := hid (copied (w := w) (row := row) (cs := cs) hb2 hr2 hl2 hm2 ht2 hgb hbs hcs (Turn.of_grown g2) (.inr hsz))
  obtain ⟨w3, hw3⟩ : ∃ w3, w3 = w2.setRow g (cur.toArray.toList.take l ++ cs ++ cur.toArray.toList.drop (l + cs.length)).toArray := ⟨_, rfl⟩
  rw [← hw3] at hcp FIN
  rw [hcs] at hcp
  obtain ⟨cap2, hcap2⟩ : ∃ cap2, cap2 = cur.length := ⟨_, rfl⟩
  rw [← hcap2] at hl2 c02 hcp
  have hne : ¬ cap2 = l := by omega
  have hln : (l : Int) ≤ (l : Int) + (n : Int) := by omega
  have HSZ := hid hsz
  clear hb2 hr2 hm2 ht2 gr2 g2 hsrc2 hw3 hcap2 hg1 hsz
  go_wp2
  go_ret2
  exact ⟨rfl, g, HSZ.out, FIN.out⟩

theorem setLast_bf {b l cap : Nat} {ao : Option Addr} {lr : Int} {w w1 : World} (hb : w.heap[b]? = some (.cells #[.slice ao l cap, .int .i64 0, .int .i8 lr] 49 (0, 0))) (h1 : w1 = w.setCell ⟨b, 2, none⟩ (.int .i8 0)) :
    w1.heap[b]? = some (.cells #[.slice ao l cap, .int .i64 0, .int .i8 0] 49 (0, 0)) := by rw [h1, Lib.heap_setCell_same (i := 2) hb]; rfl

/-- (*bytes.Buffer).Write. -/
theorem bf_write (b n c : Nat) (row : Option Nat) (a : Addr) (bs cs : List Value) (w : World) (h : Bf b row bs w) (hn : 1 ≤ n) (hlim : bs.length + n ≤ 140737488355328) (hcs : cs.length = n) (hab : a.block ≠ b)
    (hsrc : ∀ j v, cs[j]? = some v → w.cell? (a.add j) = some v) (h1 : ∀ v ∈ bs, v.oneCell' = true) (h1c : ∀ v ∈ cs, v.oneCell' = true) :
    Calls Tryd.prog 39 #[.pointer (some ⟨b, 0, none⟩), .slice (some a) n c] w fun e w' => e = .returned (.tuple #[.int .i64 (n : Int), .nilIface]) ∧ ∃ row', Bf b row' (bs ++ cs) w' ∧ (row' = row ∨ ∃ k, row' = some k ∧ w.heap.size ≤ k) ∧ Turn w w' b row := by
  obtain ⟨lr, ⟨rfl, rfl, hb⟩ | ⟨g, cur, rfl, hb, hr, hl, hm, ht, hgb⟩⟩ := h
  · refine (write_grow b 0 n c 0 none a lr [] cs none w hb (Nat.le_refl _) (by omega) (by omega) hn (by simpa using hlim) hcs rfl hab hsrc h1c ?_).mono ?_
    · intro w1 e1
      have hb1 := setLast_bf hb e1
      by_cases h64 : n ≤ 64
      · exact grow_nil_small b n 0 w1 hb1 hn h64
      · exact grow_nil_big b n 0 w1 hb1 (by omega) (by simpa using hlim)
    · rintro e w' ⟨rfl, k, hk, hB, hT⟩
      exact ⟨rfl, some k, hB, .inr ⟨k, rfl, hk⟩, hT⟩
  · by_cases hroom : bs.length + n ≤ cur.length
    · refine (write_room b g bs.length n c a lr cur cs w hb hr hm hroom hn hcs hab hgb hsrc h1c).mono ?_
      rintro e w' ⟨rfl, hB, hT⟩
      rw [ht] at hB
      exact ⟨rfl, some g, hB, .inl rfl, hT⟩
    · refine (write_grow b bs.length n c cur.length (some ⟨g, 0, none⟩) a lr bs cs (some g) w hb hl (by unfold maxLen at hm; omega) (by omega) hn hlim hcs rfl hab hsrc h1c ?_).mono ?_
      · intro w1 e1
        have hb1 := setLast_bf hb e1
        have hr1 : Row w1 g cur := hr.kept (row := some b) (by rw [e1]; exact Lib.grownBy_setCell w b 2 _) (by simpa using hgb)
        by_cases hl0 : bs.length = 0
        · have hbs : bs = [] := List.eq_nil_of_length_eq_zero hl0
          subst hbs
          exact grow_row_zero b g n 0 cur w1 hb1 hr1 hn (by simp at hroom; omega) (by simpa using hlim)
        · have := grow_row_pos b g bs.length n 0 cur w1 hb1 hr1 hl hn (by omega) hlim (by rw [ht]; exact h1) hl0
          rw [ht] at this
          exact this
      · rintro e w' ⟨rfl, k, hk, hB, hT⟩
        exact ⟨rfl, some k, hB, .inr ⟨k, rfl, hk⟩, hT⟩
end Go.Proofs.Qxb6608669aDoor
