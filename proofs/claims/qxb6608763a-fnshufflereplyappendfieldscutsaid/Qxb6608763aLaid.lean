/-
  Seat b6608763a: the appends of encoding/binary with a fine frame. By an AI agent.
-/
import Derived.Test.Qxb6608763aBase
import Derived.Shelf.Bin.BEAppendUint16
import Derived.Shelf.Bin.BEAppendUint32
import Derived.Shelf.Bin.BEAppendUint64
import Derived.Shelf.Bin.BEAppendUint16Arg
import Derived.Shelf.Bin.BEAppendUint32Arg
import Derived.Shelf.Bin.BEAppendUint64Arg
import Derived.Maps.AppendAt
import Derived.Lib.AppendStr
import Derived.Lib.BufferMore
import Derived.Lib.BufferOwn
import Derived.Lib.BufferWrite
import Derived.Shelf.Lay
import Derived.Ground.MnProg
namespace Go.Proofs.Qxb6608763a
open Go.Shelf Go.RowKit

/-- Block g is a row of bytes, holding the cells cur. -/
def Row (w : World) (g : Nat) (cur : List Value) : Prop := w.heap[g]? = some (.cells cur.toArray 5 (0, 0))

theorem Row.cell {w : World} {g : Nat} {cur : List Value} (h : Row w g cur) (i : Nat) : w.cell? ⟨g, i, none⟩ = cur[i]? := by
  unfold Row at h
  simp [World.cell?, h]
theorem Row.frozen {w : World} {g : Nat} {cur : List Value} (h : Row w g cur) (i : Nat) : w.frozen? ⟨g, i, none⟩ = false := by
  unfold Row at h
  simp [World.frozen?, h]
theorem Row.lt {w : World} {g : Nat} {cur : List Value} (h : Row w g cur) : g < w.heap.size := Lib.lt_of_heap h
theorem Row.get {w : World} {g : Nat} {cur : List Value} (h : Row w g cur) (i : Nat) (hi : i < cur.length) : ∃ v, w.cell? ⟨g, i, none⟩ = some v := ⟨cur[i], by rw [h.cell, List.getElem?_eq_getElem hi]⟩
theorem Row.alloc {w : World} {g : Nat} {cur : List Value} (h : Row w g cur) (o : Obj) : Row (w.alloc o) g cur := by
  have hl := h.lt
  unfold Row at *
  rw [Below.heap_alloc _ _ _ hl]; exact h

theorem splice_get {α : Type} (cur cs : List α) (o i : Nat) (h : o + cs.length ≤ cur.length) : (splice cur o cs)[i]? = if i < o then cur[i]? else if i < o + cs.length then cs[i - o]? else cur[i]? := by
  unfold splice
  have ho : (cur.take o).length = o := by simp; omega
  by_cases h1 : i < o
  · rw [if_pos h1, List.getElem?_append_left (by omega), List.getElem?_take, if_pos h1]
  · rw [if_neg h1, List.getElem?_append_right (by omega), ho]
    by_cases h2 : i < o + cs.length
    · rw [if_pos h2, List.getElem?_append_left (by omega)]
    · rw [if_neg h2, List.getElem?_append_right (by omega), List.getElem?_drop]
      congr 1; omega

/-- Two pieces laid over one another, the second from inside the first to its end or beyond. -/
theorem splice_splice {α : Type} (cur xs ys : List α) (o k : Nat) (hk : k ≤ xs.length) (hy : xs.length ≤ k + ys.length) (h : o + k + ys.length ≤ cur.length) :
    splice (splice cur o xs) (o + k) ys = splice cur o (xs.take k ++ ys) := by
  apply List.ext_getElem?
  intro i
  have hx : o + xs.length ≤ cur.length := by omega
  have ht : (xs.take k ++ ys).length = k + ys.length := by simp; omega
  rw [splice_get _ _ _ _ (by rw [length_splice _ _ _ hx]; omega), splice_get _ _ _ _ hx, splice_get _ _ _ _ (by rw [ht]; omega), ht]
  by_cases h1 : i < o
  · simp [h1, show i < o + k by omega]
  · by_cases h2 : i < o + k
    · simp only [h1, h2, if_true, if_false, show i < o + xs.length by omega, show i < o + (k + ys.length) by omega]
      rw [List.getElem?_append_left (by simp; omega), List.getElem?_take, if_pos (by omega)]
    · by_cases h3 : i < o + k + ys.length
      · simp only [h1, h2, h3, if_true, if_false, show i < o + (k + ys.length) by omega]
        rw [List.getElem?_append_right (by simp; omega)]
        congr 1; simp; omega
      · simp only [h1, h2, h3, if_false, show ¬ i < o + (k + ys.length) by omega, show ¬ i < o + xs.length by omega]

theorem set_splice {α : Type} (cur : List α) (o : Nat) (v : α) (h : o < cur.length) : cur.set o v = splice cur o [v] := by
  apply List.ext_getElem?
  intro i
  rw [splice_get _ _ _ _ (by simp; omega), List.getElem?_set]
  by_cases h1 : i < o
  · simp [h1]; omega
  · by_cases h2 : i = o
    · subst h2; simp [h]
    · simp [h1, show ¬ o = i by omega, show ¬ i < o + 1 by omega]

theorem row_setCells (g : Nat) : ∀ (cs cur : List Value) (o : Nat) (w : World), Row w g cur → o + cs.length ≤ cur.length → Row (w.setCells g o cs) g (splice cur o cs) ∧ w.grownBy (w.setCells g o cs) (some g)
  | [], cur, o, w, h, _ => ⟨by simpa [splice, World.setCells] using h, World.grownBy.refl _ _⟩
  | v :: r, cur, o, w, h, hl => by
    simp only [List.length_cons] at hl
    have e1 : w.setCell ⟨g, o, none⟩ v = w.setRow g (cur.set o v).toArray := by
      rw [setCell_eq_setRow w g o cur.toArray 5 (0, 0) v h]
      congr 1; simp
    have h1 : Row (w.setCell ⟨g, o, none⟩ v) g (cur.set o v) := by rw [e1]; exact setRow_heap w g _ _ 5 (0, 0) h
    obtain ⟨r1, r2⟩ := row_setCells g r (cur.set o v) (o + 1) (w.setCell ⟨g, o, none⟩ v) h1 (by simp; omega)
    refine ⟨?_, ?_⟩
    · show Row ((w.setCell ⟨g, o, none⟩ v).setCells g (o + 1) r) g _
      have e2 : splice (cur.set o v) (o + 1) r = splice cur o (v :: r) := by
        rw [set_splice cur o v (by omega), splice_splice cur [v] r o 1 (by simp) (by simp) (by omega)]
        rfl
      rw [← e2]; exact r1
    · exact Lib.grownBy_trans (Lib.grownBy_setCell w g o v) r2


theorem splice_take (cur cs : List Value) (o : Nat) (h : o ≤ cur.length) : (splice cur o cs).take o = cur.take o := by
  unfold splice
  rw [List.take_append_of_le_length (by simp; omega), List.take_take, Nat.min_self]

theorem splice_take_all (cur cs : List Value) (o : Nat) (h : o + cs.length ≤ cur.length) : (splice cur o cs).take (o + cs.length) = cur.take o ++ cs := by
  unfold splice
  have : (cur.take o ++ cs).length = o + cs.length := by simp; omega
  rw [← List.append_assoc, ← this, List.take_left]

/-- What an append of bytes leaves: the row, and nothing else that was there has turned. -/
structure Fine (B : Nat) (w w' : World) (sv v' : Value) (n : Nat) (xs : List Value) : Prop where
  own : w'.ownsRow B 5 1 v' n xs
  grown : w.grownBy w' sv.ownBlock
  blk : ∀ k, v'.ownBlock = some k → sv.ownBlock = some k ∨ w.heap.size ≤ k

theorem owns_ge {w : World} {B B' : Nat} {v : Value} {n : Nat} {xs : List Value} (h : w.ownsRow B' 5 1 v n xs) (hB : B ≤ B') : w.ownsRow B 5 1 v n xs := by
  refine ⟨h.1, ?_⟩
  rcases h.2 with h' | ⟨g, cap, cur, h1, h2, h3⟩
  · exact .inl h'
  · exact .inr ⟨g, cap, cur, h1, by omega, h3⟩

theorem owns_block {w : World} {B : Nat} {v : Value} {n : Nat} {xs : List Value} (h : w.ownsRow B 5 1 v n xs) (k : Nat) (hk : v.ownBlock = some k) : B ≤ k := (h.lt k hk).1

theorem grown_of_below {w w' : World} {r : Option Nat} (h : Below w.heap.size w w') : w.grownBy w' r := ⟨h.os, h.tape, h.output, h.size, fun k hk _ => h.block k hk⟩

/-- From the shelf's two contracts to the fine one. -/
theorem fine (f k T : Nat) (iv : Value) (news : List Value) (hk : news.length = k)
    (hown : ∀ (B n : Nat) (sv : Value) (xs : List Value) (w : World), w.ownsRow B 5 1 sv n xs → B ≤ w.heap.size → n + k ≤ 140737488355328 →
      Calls Try.prog f #[.agg #[], sv, iv] w fun e w' => ∃ v', e = .returned v' ∧ w'.ownsRow B 5 1 v' (n + k) (xs ++ news) ∧ Below B w w')
    (harg : ∀ (g o n cap : Nat) (olds : List Value) (w : World), olds.length = n → (∀ j u, olds[j]? = some u → w.cell? ⟨g, o + j, none⟩ = some u) →
      (n + k ≤ cap → ∀ j, j < k → (w.cell? ⟨g, o + n + j, none⟩).isSome = true ∧ w.frozen? ⟨g, o + n + j, none⟩ = false) → n + k ≤ 140737488355328 →
      Calls Try.prog f #[.agg #[], .slice (some ⟨g, o, none⟩) n cap, iv] w fun e w' =>
        (n + k ≤ cap ∧ e = .returned (.slice (some ⟨g, o, none⟩) (n + k) cap) ∧ w' = ((w.alloc (.cells #[] T)).alloc (.cells news.toArray 5)).setCells g (o + n) news) ∨
        (cap < n + k ∧ ∃ v', e = .returned v' ∧ w'.ownsRow (w.heap.size + 2) 5 1 v' (n + k) (olds ++ news) ∧ Below w.heap.size w w'))
    (B n : Nat) (sv : Value) (xs : List Value) (w : World) (h : w.ownsRow B 5 1 sv n xs) (hB : B ≤ w.heap.size) (hn : n + k ≤ 140737488355328) :
    Calls Try.prog f #[.agg #[], sv, iv] w fun e w' => ∃ v', e = .returned v' ∧ Fine B w w' sv v' (n + k) (xs ++ news) := by
  rcases h.2 with ⟨rfl, rfl⟩ | ⟨g, cap, cur, rfl, hg, hr, hnc, hcm, hsz, htk⟩
  · have hx : xs = [] := List.eq_nil_of_length_eq_zero (by simpa using h.1)
    subst hx
    refine (hown w.heap.size 0 (.slice none 0 0) [] w (World.ownsRow_nil _ _ _ _) (Nat.le_refl _) hn).mono ?_
    rintro e w' ⟨v', rfl, q1, q2⟩
    exact ⟨v', rfl, owns_ge q1 hB, grown_of_below q2, fun k hk => .inr (owns_block q1 k hk)⟩
  · have R : Row w g cur.toList := by unfold Row; rw [hr]
    have hl : xs.length = n := by simpa using h.1
    rw [Nat.mul_one] at hsz htk
    refine (harg g 0 n cap xs w hl ?_ ?_ hn).mono ?_
    · intro j u hj
      rw [Nat.zero_add, R.cell]
      rw [← htk, List.getElem?_take] at hj
      split at hj
      · exact hj
      · cases hj
    · intro hcap j hj
      rw [Nat.zero_add]
      obtain ⟨v, hv⟩ := R.get (n + j) (by simp; omega)
      exact ⟨by rw [hv]; rfl, R.frozen _⟩
    · rintro e w' (⟨hroom, rfl, hw⟩ | ⟨hcap, v', rfl, q1, q2⟩)
      · rw [Nat.zero_add] at hw
        have hfit : n + news.length ≤ cur.toList.length := by simp; omega
        obtain ⟨r1, r2⟩ := row_setCells g news cur.toList n ((w.alloc (.cells #[] T)).alloc (.cells news.toArray 5)) (Row.alloc (Row.alloc R _) _) hfit
        rw [← hw] at r1 r2
        refine ⟨_, rfl, ⟨by simp [hl, hk], .inr ⟨g, cap, _, rfl, hg, r1, by omega, hcm, ?_, ?_⟩⟩, ?_, fun k hk => .inl hk⟩
        · rw [List.size_toArray, length_splice _ _ _ hfit]
          simpa using hsz
        · rw [List.toList_toArray, Nat.mul_one, ← hk, splice_take_all _ _ _ hfit, htk]
        · exact Lib.grownBy_trans (Lib.grownBy_trans (World.grownBy_alloc w _ _) (World.grownBy_alloc _ _ _)) r2
      · exact ⟨v', rfl, owns_ge q1 (by omega), grown_of_below q2, fun k hk => .inr (by have := owns_block q1 k hk; omega)⟩

shelf_lay LaysBin.n38 Mn 38 at Try as Try.laysB38
shelf_lay LaysBin.n41 Mn 41 at Try as Try.laysB41
shelf_lay LaysBin.n44 Mn 44 at Try as Try.laysB44

theorem app16 (B n v : Nat) (hv : v < 65536) (sv : Value) (xs : List Value) (w : World) (h : w.ownsRow B 5 1 sv n xs) (hB : B ≤ w.heap.size) (hn : n + 2 ≤ 140737488355328) :
    Calls Try.prog 34 #[.agg #[], sv, .int .u16 v] w fun e w' => ∃ v', e = .returned v' ∧ Fine B w w' sv v' (n + 2) (xs ++ Lib.byteCells (Lib.beBytes 2 v)) :=
  fine 34 2 _ (.int .u16 v) (Lib.byteCells (Lib.beBytes 2 v)) (by simp [Lib.byteCells_length, Lib.beBytes, Lib.leBytes_length]) (fun B n sv xs w h hB hn => Any.binary_BE_AppendUint16 Try.laysB38 B n v hv sv xs w h hB hn)
    (fun g o n cap olds w h1 h2 h3 h4 => Any.binary_BE_AppendUint16_arg Try.laysB38 g o n cap v hv olds w h1 h2 h3 h4) B n sv xs w h hB hn
theorem app32 (B n v : Nat) (hv : v < 4294967296) (sv : Value) (xs : List Value) (w : World) (h : w.ownsRow B 5 1 sv n xs) (hB : B ≤ w.heap.size) (hn : n + 4 ≤ 140737488355328) :
    Calls Try.prog 35 #[.agg #[], sv, .int .u32 v] w fun e w' => ∃ v', e = .returned v' ∧ Fine B w w' sv v' (n + 4) (xs ++ Lib.byteCells (Lib.beBytes 4 v)) :=
  fine 35 4 _ (.int .u32 v) (Lib.byteCells (Lib.beBytes 4 v)) (by simp [Lib.byteCells_length, Lib.beBytes, Lib.leBytes_length]) (fun B n sv xs w h hB hn => Any.binary_BE_AppendUint32 Try.laysB41 B n v hv sv xs w h hB hn)
    (fun g o n cap olds w h1 h2 h3 h4 => Any.binary_BE_AppendUint32_arg Try.laysB41 g o n cap v hv olds w h1 h2 h3 h4) B n sv xs w h hB hn
theorem app64 (B n v : Nat) (hv : v < 18446744073709551616) (sv : Value) (xs : List Value) (w : World) (h : w.ownsRow B 5 1 sv n xs) (hB : B ≤ w.heap.size) (hn : n + 8 ≤ 140737488355328) :
    Calls Try.prog 36 #[.agg #[], sv, .int .u64 v] w fun e w' => ∃ v', e = .returned v' ∧ Fine B w w' sv v' (n + 8) (xs ++ Lib.byteCells (Lib.beBytes 8 v)) :=
  fine 36 8 _ (.int .u64 v) (Lib.byteCells (Lib.beBytes 8 v)) (by simp [Lib.byteCells_length, Lib.beBytes, Lib.leBytes_length]) (fun B n sv xs w h hB hn => Any.binary_BE_AppendUint64 Try.laysB44 B n v hv sv xs w h hB hn)
    (fun g o n cap olds w h1 h2 h3 h4 => Any.binary_BE_AppendUint64_arg Try.laysB44 g o n cap v hv olds w h1 h2 h3 h4) B n sv xs w h hB hn

/-- The n bytes of v, the greatest first. -/
def be (n v : Nat) : List Int := (List.range n).map fun j => ((v / 256 ^ (n - 1 - j) % 256 : Nat) : Int)
theorem be_length (n v : Nat) : (be n v).length = n := by simp [be]
theorem be_getD (n v j : Nat) (h : j < n) : (be n v).getD j 0 = ((v / 256 ^ (n - 1 - j) % 256 : Nat) : Int) := by simp [be, List.getD, h]
theorem be_succ (n v : Nat) : be (n + 1) v = be n (v / 256) ++ [((v % 256 : Nat) : Int)] := by
  unfold be
  rw [List.range_succ, List.map_append]
  congr 1
  · apply List.map_congr_left
    intro j hj
    simp at hj
    rw [Nat.div_div_eq_div_mul, show n + 1 - 1 - j = (n - 1 - j) + 1 by omega, Nat.pow_succ, Nat.mul_comm]
  · simp

theorem be_cells : ∀ n v : Nat, Lib.byteCells (Lib.beBytes n v) = bc (be n v)
  | 0, v => rfl
  | n + 1, v => by
    rw [be_succ, bc_append, ← be_cells n (v / 256)]
    unfold Lib.beBytes Lib.byteCells
    rw [Lib.leBytes, List.reverse_cons, List.map_append]
    congr 1
    simp [bc]

/-- The head of an item: its major type and its argument, in the shortest form. -/
def hd (m v : Nat) : List Int :=
  if v < 24 then [((m * 32 + v : Nat) : Int)]
  else if v < 256 then ((m * 32 + 24 : Nat) : Int) :: be 1 v
  else if v < 65536 then ((m * 32 + 25 : Nat) : Int) :: be 2 v
  else if v < 4294967296 then ((m * 32 + 26 : Nat) : Int) :: be 4 v
  else ((m * 32 + 27 : Nat) : Int) :: be 8 v

theorem hd_length_le (m v : Nat) : (hd m v).length ≤ 9 := by
  unfold hd
  repeat' split
  all_goals simp [be_length]
theorem hd_pos (m v : Nat) : 1 ≤ (hd m v).length := by
  unfold hd
  repeat' split
  all_goals simp
end Go.Proofs.Qxb6608763a
