/-
  Seat b6608763a: the laws' own helpers: cloneBytes, sameBytes, hasPrefix. By an AI agent.
-/
import Derived.Test.Qxb6608763aRows
import Derived.WalkKit
import Derived.ProofKit
import Derived.Laws.CopyOwn
import Derived.Deep.QuietTactic
import Derived.BigQuiet
import Derived.Deep.OwnRows
import Derived.WalkSpells
import Derived.WalkLawsBesides
namespace Go.Proofs.Qxb6608763a
open Go.RowKit

theorem Try.info5 : (Try.prog.info? 5).map (fun i => (i.zero, i.size, i.bytes)) = some (some (.int .u8 0), 1, 1) := by kernel_rfl
theorem Try.size5 : (Try.prog.info? 5).map (·.size) = some 1 := by kernel_rfl

/-- The cells of a list of bytes, given as numbers. -/
def bc (zs : List Int) : List Value := zs.map (Value.int .u8)
theorem bc_length (zs : List Int) : (bc zs).length = zs.length := by simp [bc]
theorem bc_append (a b : List Int) : bc (a ++ b) = bc a ++ bc b := by simp [bc]
theorem bc_one (zs : List Int) : ∀ v ∈ bc zs, v.oneCell' = true := ints_oneCell _ _
theorem bc_get {zs : List Int} {j : Nat} {v : Value} (h : (bc zs)[j]? = some v) : j < zs.length ∧ v = .int .u8 (zs.getD j 0) := by
  obtain ⟨hj, hv⟩ := List.getElem?_eq_some_iff.1 h
  have hj' : j < zs.length := by simpa [bc] using hj
  refine ⟨hj', ?_⟩
  rw [← hv]
  simp [bc, List.getD, hj']
theorem bc_at (zs : List Int) (j : Nat) (h : j < zs.length) : (bc zs)[j]? = some (.int .u8 (zs.getD j 0)) := by simp [bc, List.getD, h]

/-- A block just laid, its row laid anew: as if it had been laid so. -/
theorem setRow_alloc (w : World) (c d : Array Value) (t : TypeId) : (w.alloc (.cells c t)).setRow w.heap.size d = w.alloc (.cells d t) := by
  unfold World.setRow World.alloc
  congr 1
  apply Array.ext
  · simp
  · intro k h1 h2
    simp only [Array.getElem_modify, Array.getElem_push]
    by_cases hk : k < w.heap.size
    · simp [hk, Nat.ne_of_gt hk]
    · have : w.heap.size = k := by simp at h2; omega
      subst this; simp

theorem alloc_at (w : World) (o : Obj) : (w.alloc o).heap[w.heap.size]? = some o := by
  show (w.heap.push o)[w.heap.size]? = _
  simp

/-- The numbers zs lie from address a on. -/
def Lies (w : World) (a : Option Addr) (zs : List Int) : Prop := ∀ j, j < zs.length → ∃ x, a = some x ∧ w.cell? (x.add j) = some (.int .u8 (zs.getD j 0))

theorem Lies.src {w : World} {x : Addr} {zs : List Int} (h : Lies w (some x) zs) : ∀ j v, (bc zs)[j]? = some v → w.cell? (x.add j) = some v := by
  intro j v hv
  obtain ⟨hj, rfl⟩ := bc_get hv
  obtain ⟨y, hy, hc⟩ := h j hj
  obtain rfl := Option.some.inj hy
  exact hc

theorem Lies.src_alloc {w : World} {x : Addr} {zs : List Int} (o : Obj) (h : Lies w (some x) zs) : ∀ j v, (bc zs)[j]? = some v → (w.alloc o).cell? (x.add j) = some v := by
  intro j v hv
  have hc := h.src j v hv
  rw [World.cell?_alloc_lt _ _ _ (World.block_lt_of_cell? _ _ hc), hc]

theorem Lies.below {w w' : World} {a : Option Addr} {zs : List Int} (h : Lies w a zs) (hb : Below w.heap.size w w') : Lies w' a zs := fun j hj => by
  obtain ⟨x, hx, hc⟩ := h j hj
  exact ⟨x, hx, (hb.cell (World.block_lt_of_cell? _ _ hc)).trans hc⟩

theorem Lies.drewN {w : World} {a : Option Addr} {zs : List Int} (h : Lies w a zs) (k : Nat) : Lies (w.drewN k) a zs := h

theorem Lies.nil (w : World) (a : Option Addr) : Lies w a [] := fun j hj => by simp at hj

theorem lies_alloc (w : World) (zs : List Int) (r : List Value) (t : TypeId) : Lies (w.alloc (.cells (bc zs ++ r).toArray t)) (some ⟨w.heap.size, 0, none⟩) zs := fun j hj => by
  refine ⟨_, rfl, ?_⟩
  rw [Addr.add_lit, Nat.zero_add, World.cell?_alloc_new]
  simp [List.getElem?_append, bc, hj, List.getD]

/-- What a value that owns a row holds. -/
theorem lies_owns {w : World} {B : Nat} {v : Value} {n : Nat} {zs : List Int} (h : w.ownsRow B 5 1 v n (bc zs)) : ∃ a c, v = .slice a n c ∧ zs.length = n ∧ (a = none → n = 0 ∧ c = 0) ∧ Lies w a zs := by
  have hl : zs.length = n := by have := h.1; simpa [bc] using this
  rcases h.2 with ⟨rfl, rfl⟩ | ⟨g, cap, cur, rfl, _, _, _⟩
  · refine ⟨none, 0, rfl, hl, fun _ => ⟨rfl, rfl⟩, fun j hj => by omega⟩
  · refine ⟨_, cap, rfl, hl, (fun h => by cases h), fun j hj => ⟨_, rfl, ?_⟩⟩
    exact h.cells (g := g) rfl j _ (bc_at zs j hj)

theorem addr_of {w : World} {a : Option Addr} {zs : List Int} (h : Lies w a zs) (h0 : 0 < zs.length) : ∃ b off, a = some ⟨b, off, none⟩ ∧ ∀ j, j < zs.length → w.cell? ⟨b, off + j, none⟩ = some (.int .u8 (zs.getD j 0)) := by
  obtain ⟨x, rfl, hx⟩ := h 0 h0
  obtain ⟨b, off, spot⟩ := x
  have hspot : spot = none := by simpa [Addr.add] using World.cell?_spot hx
  subst hspot
  refine ⟨b, off, rfl, fun j hj => ?_⟩
  obtain ⟨y, hy, hc⟩ := h j hj
  obtain rfl := Option.some.inj hy
  rw [← Addr.add_lit]; exact hc

theorem equal_none (a1 a2 : Option Addr) (c1 c2 : Nat) (w : World) :
    Calls Try.prog 17 #[.slice a1 0 c1, .slice a2 0 c2] w fun e w' => e = .returned (.bool true) ∧ w' = w := by
  go_enter Try.func17, Try.ntmps17
  go_wp2
  go_loop [5] (fun i => i = .int .i64 0) (fun _ => 0)
  case atStart => rfl
  case round =>
    obtain rfl := hrel
    go_wp2
    go_ret
    exact ⟨rfl, rfl⟩

set_option maxHeartbeats 400000 in
theorem equal_some (b1 o1 b2 o2 n c1 c2 : Nat) (zs : List Int) (w : World) (hn : n ≤ 4194304)
    (h1 : ∀ j, j < n → w.cell? ⟨b1, o1 + j, none⟩ = some (.int .u8 (zs.getD j 0))) (h2 : ∀ j, j < n → w.cell? ⟨b2, o2 + j, none⟩ = some (.int .u8 (zs.getD j 0))) :
    Calls Try.prog 17 #[.slice (some ⟨b1, o1, none⟩) n c1, .slice (some ⟨b2, o2, none⟩) n c2] w fun e w' => e = .returned (.bool true) ∧ ∃ k, w' = w.drewN k := by
  go_enter Try.func17, Try.ntmps17
  go_wp2
  go_loopw [5] (fun i wr => (∃ k : Nat, k ≤ n ∧ i = .int .i64 k) ∧ ∃ m, wr = w.drewN m) (fun i _ => n - (intOf i).toNat)
  case atStart => exact ⟨⟨0, Nat.zero_le _, rfl⟩, 0, rfl⟩
  case round =>
    obtain ⟨⟨k, hk, rfl⟩, m, rfl⟩ := hrel
    by_cases hlt : k < n
    · have g1 := h1 k hlt
      have g2 := h2 k hlt
      have hlt' : (k : Int) < (n : Int) := by omega
      go_wp2
      go_quiet (fail)
      go_wp2
      go_roundw
      case rel => exact ⟨⟨k + 1, by omega, by go_num⟩, _, rfl⟩
      case measure => simp [intOf]; omega
    · go_wp2
      go_ret
      exact ⟨rfl, m, rfl⟩

theorem equal_any (a1 a2 : Option Addr) (n c1 c2 : Nat) (zs : List Int) (w : World) (hz : zs.length = n) (hn : n ≤ 4194304) (h1 : Lies w a1 zs) (h2 : Lies w a2 zs) :
    Calls Try.prog 17 #[.slice a1 n c1, .slice a2 n c2] w fun e w' => e = .returned (.bool true) ∧ ∃ k, w' = w.drewN k := by
  by_cases h0 : n = 0
  · subst h0
    refine (equal_none a1 a2 c1 c2 w).mono ?_
    rintro e w' ⟨rfl, rfl⟩
    exact ⟨rfl, 0, rfl⟩
  · obtain ⟨b1, o1, rfl, g1⟩ := addr_of h1 (by omega)
    obtain ⟨b2, o2, rfl, g2⟩ := addr_of h2 (by omega)
    exact equal_some b1 o1 b2 o2 n c1 c2 zs w hn (fun j hj => g1 j (by omega)) (fun j hj => g2 j (by omega))

/-! ### hasPrefix -/
set_option maxHeartbeats 400000 in
theorem prefix_none (a1 a2 : Option Addr) (n c1 c2 : Nat) (w : World) :
    Calls Try.prog 12 #[.slice a1 n c1, .slice a2 0 c2] w fun e w' => e = .returned (.bool true) ∧ w' = w := by
  go_enter Try.func12, Try.ntmps12
  go_wp2
  go_loop [5] (fun i => i = .int .i64 0) (fun _ => 0)
  case atStart => rfl
  case round =>
    obtain rfl := hrel
    go_wp2
    go_ret
    exact ⟨rfl, rfl⟩

set_option maxHeartbeats 400000 in
theorem prefix_some (b1 o1 b2 o2 m n c1 c2 : Nat) (zs : List Int) (w : World) (hn : n ≤ 4194304) (hm : n ≤ m)
    (h1 : ∀ j, j < n → w.cell? ⟨b1, o1 + j, none⟩ = some (.int .u8 (zs.getD j 0))) (h2 : ∀ j, j < n → w.cell? ⟨b2, o2 + j, none⟩ = some (.int .u8 (zs.getD j 0))) :
    Calls Try.prog 12 #[.slice (some ⟨b1, o1, none⟩) m c1, .slice (some ⟨b2, o2, none⟩) n c2] w fun e w' => e = .returned (.bool true) ∧ ∃ k, w' = w.drewN k := by
  go_enter Try.func12, Try.ntmps12
  go_wp2
  go_loopw [5] (fun i wr => (∃ k : Nat, k ≤ n ∧ i = .int .i64 k) ∧ ∃ m, wr = w.drewN m) (fun i _ => n - (intOf i).toNat)
  case atStart => exact ⟨⟨0, Nat.zero_le _, rfl⟩, 0, rfl⟩
  case round =>
    obtain ⟨⟨k, hk, rfl⟩, q, rfl⟩ := hrel
    by_cases hlt : k < n
    · have g1 := h1 k hlt
      have g2 := h2 k hlt
      have hlt' : (k : Int) < (n : Int) := by omega
      have hlm' : (k : Int) < (m : Int) := by omega
      go_wp2
      go_quiet (fail)
      go_wp2
      go_roundw
      case rel => exact ⟨⟨k + 1, by omega, by go_num⟩, _, rfl⟩
      case measure => simp [intOf]; omega
    · go_wp2
      go_ret
      exact ⟨rfl, q, rfl⟩

theorem prefix_any (a1 a2 : Option Addr) (m n c1 c2 : Nat) (zs ys : List Int) (w : World) (hz : zs.length = n) (hm : zs.length + ys.length = m) (hn : n ≤ 4194304) (h1 : Lies w a1 (zs ++ ys)) (h2 : Lies w a2 zs) :
    Calls Try.prog 12 #[.slice a1 m c1, .slice a2 n c2] w fun e w' => e = .returned (.bool true) ∧ ∃ k, w' = w.drewN k := by
  by_cases h0 : n = 0
  · subst h0
    refine (prefix_none a1 a2 m c1 c2 w).mono ?_
    rintro e w' ⟨rfl, rfl⟩
    exact ⟨rfl, 0, rfl⟩
  · obtain ⟨b1, o1, rfl, g1⟩ := addr_of h1 (by simp; omega)
    obtain ⟨b2, o2, rfl, g2⟩ := addr_of h2 (by omega)
    refine prefix_some b1 o1 b2 o2 m n c1 c2 zs w hn (by omega) (fun j hj => ?_) (fun j hj => g2 j (by omega))
    rw [g1 j (by simp; omega)]
    simp [List.getD, List.getElem?_append, show j < zs.length by omega]

theorem owns_lies {w : World} {B : Nat} {v : Value} {n : Nat} {zs : List Int} (h : w.ownsRow B 5 1 v n (bc zs)) : ∃ a c, v = .slice a n c ∧ zs.length = n ∧ (a = none → n = 0 ∧ c = 0) ∧ Lies w a zs ∧ n ≤ c := by
  have hl : zs.length = n := by have := h.1; simpa [bc] using this
  rcases h.2 with ⟨rfl, rfl⟩ | ⟨g, cap, cur, rfl, _, _, hnc, _⟩
  · refine ⟨none, 0, rfl, hl, fun _ => ⟨rfl, rfl⟩, (fun j hj => by omega), Nat.le_refl _⟩
  · refine ⟨_, cap, rfl, hl, (fun h => by cases h), fun j hj => ⟨_, rfl, ?_⟩, hnc⟩
    exact h.cells (g := g) rfl j _ (bc_at zs j hj)

theorem below_drewN {w : World} (k : Nat) : Below w.heap.size w (w.drewN k) := ⟨rfl, rfl, rfl, Nat.le_refl _, fun _ _ => rfl⟩
theorem below_drewN' {B : Nat} {w0 w : World} (h : Below B w0 w) (k : Nat) : Below B w0 (w.drewN k) := ⟨h.os, h.tape, h.output, h.size, h.block⟩
theorem Below.then {w w1 w2 : World} (h : Below w.heap.size w w1) (k : Below w1.heap.size w1 w2) : Below w.heap.size w w2 := h.trans (k.mono h.size)
theorem hid {p : Prop} (h : p) : Hid p := h
theorem frozen_of_block {w : World} {b : Nat} {cs : Array Value} {T : TypeId} (h : w.heap[b]? = some (.cells cs T (0, 0))) (i : Nat) : w.frozen? ⟨b, i, none⟩ = false := by simp [World.frozen?, h]
theorem cell_of_block {w : World} {b : Nat} {cs : Array Value} {T : TypeId} (h : w.heap[b]? = some (.cells cs T (0, 0))) (i : Nat) : w.cell? ⟨b, i, none⟩ = cs[i]? := by simp [World.cell?, h]

/-! ### cloneBytes -/
set_option maxHeartbeats 400000 in
theorem clone_nil (w : World) : Calls Try.prog 11 #[.slice none 0 0] w fun e w' => e = .returned (.slice none 0 0) ∧ w' = w := by
  have hnil := fun (w : World) (a : Option Addr) (n c : Nat) => Lib.run_eql_slice_nil (P := Try.prog) w 22 5 a n c 0 0 Try.underlying22
  go_enter Try.func11, Try.ntmps11
  go_wp2
  go_ret
  exact ⟨rfl, rfl⟩

/-- A row laid cell by cell. -/
structure Part (w wr : World) (g n k : Nat) (zs : List Int) : Prop where
  row : ∃ cs : List Value, wr.heap[g]? = some (.cells cs.toArray 5 (0, 0)) ∧ cs.length = n ∧ cs.take k = bc (zs.take k)
  below : Below w.heap.size w wr
  ge : w.heap.size ≤ g

theorem Part.next {w wr : World} {g n k : Nat} {zs : List Int} (h : Part w wr g n k zs) (hk : k < n) (hz : zs.length = n) :
    (∃ u, wr.cell? ⟨g, k, none⟩ = some u) ∧ wr.frozen? ⟨g, k, none⟩ = false ∧ Part w (wr.setCell ⟨g, k, none⟩ (.int .u8 (zs.getD k 0))) g n (k + 1) zs := by
  obtain ⟨⟨cs, h1, h2, h3⟩, hb, hg⟩ := h
  refine ⟨⟨cs[k]'(by omega), by rw [cell_of_block h1]; simp [h2, hk]⟩, frozen_of_block h1 k, ⟨⟨cs.set k (.int .u8 (zs.getD k 0)), ?_, by simp [h2], ?_⟩, hb.setCell (p := ⟨g, k, none⟩) hg _, hg⟩⟩
  · rw [heap_setCell_same _ _ k _ _ _ h1]
    simp
  · rw [List.take_set, List.take_add_one, h3, List.take_add_one]
    simp only [bc, List.map_append, List.map_take]
    simp [h2, hk, hz, List.getD, Nat.min_eq_left (show k ≤ n by omega)]

theorem Part.owns {w wr : World} {g n : Nat} {zs : List Int} (h : Part w wr g n n zs) (hz : zs.length = n) (hn : n ≤ 4194304) : wr.ownsRow w.heap.size 5 1 (.slice (some ⟨g, 0, none⟩) n n) n (bc zs) := by
  obtain ⟨⟨cs, h1, h2, h3⟩, hb, hg⟩ := h
  refine ⟨by simp [bc_length, hz], .inr ⟨g, n, cs.toArray, rfl, hg, h1, Nat.le_refl _, by unfold maxLen; omega, by simp [h2], ?_⟩⟩
  rw [List.toList_toArray, Nat.mul_one, h3, List.take_of_length_le (by omega)]

set_option maxHeartbeats 400000 in
theorem clone_zero (x : Addr) (c : Nat) (w : World) : Calls Try.prog 11 #[.slice (some x) 0 c] w fun e w' => ∃ v, e = .returned v ∧ w'.ownsRow w.heap.size 5 1 v 0 (bc []) ∧ Below w.heap.size w w' := by
  have hnil := fun (w : World) (a : Option Addr) (n c : Nat) => Lib.run_eql_slice_nil (P := Try.prog) w 22 5 a n c 0 0 Try.underlying22
  have hmk : ∀ w, (Instr.makeSlice 22 (.int .i64 0) (.int .i64 0)).run Try.prog w = _ := run_make_row' (P := Try.prog) 22 5 (.int .u8 0) 1 Try.underlying22 Try.info5 rfl .i64 .i64 0 (by omega) (by omega)
  go_enter Try.func11, Try.ntmps11
  go_wp2
  go_loop [4] (fun i => i = .int .i64 0) (fun _ => 0)
  case atStart => rfl
  case round =>
    obtain rfl := hrel
    go_wp2
    go_ret
    refine ⟨_, rfl, ?_, (Below.refl _ _).alloc (Nat.le_refl _) _⟩
    exact ⟨rfl, .inr ⟨w.heap.size, 0, _, rfl, Nat.le_refl _, alloc_at _ _, Nat.le_refl _, Nat.zero_le _, by simp [madeCells], rfl⟩⟩

set_option maxHeartbeats 400000 in
theorem clone_some (b o n c : Nat) (zs : List Int) (w : World) (hz : zs.length = n) (hn : n ≤ 2097152) (h1 : ∀ j, j < n → w.cell? ⟨b, o + j, none⟩ = some (.int .u8 (zs.getD j 0))) :
    Calls Try.prog 11 #[.slice (some ⟨b, o, none⟩) n c] w fun e w' => ∃ v, e = .returned v ∧ w'.ownsRow w.heap.size 5 1 v n (bc zs) ∧ Below w.heap.size w w' := by
  have hnil := fun (w : World) (a : Option Addr) (n c : Nat) => Lib.run_eql_slice_nil (P := Try.prog) w 22 5 a n c 0 0 Try.underlying22
  have hmk := run_make_row' (P := Try.prog) 22 5 (.int .u8 0) 1 Try.underlying22 Try.info5 rfl .i64 .i64 n (by omega) (by omega)
  have HP : Hid (Part w (w.alloc (.cells (madeCells #[.int .u8 0] n) 5)) w.heap.size n 0 zs) :=
    ⟨⟨(madeCells #[.int .u8 0] n).toList, by rw [alloc_at], by simp [size_madeCells], by simp [bc]⟩, (Below.refl _ _).alloc (Nat.le_refl _) _, Nat.le_refl _⟩
  have H1 := hid h1
  clear h1
  go_enter Try.func11, Try.ntmps11
  go_wp2
  go_loopw [4] (fun i wr => ∃ k : Nat, k ≤ n ∧ i = .int .i64 k ∧ Hid (Part w wr w.heap.size n k zs)) (fun i _ => n - (intOf i).toNat)
  case atStart => exact ⟨0, Nat.zero_le _, rfl, HP⟩
  case round =>
    obtain ⟨k, hk, rfl, hP⟩ := hrel
    by_cases hlt : k < n
    · have g1 := H1.out k hlt
      have g2 : wr.cell? ⟨b, o + k, none⟩ = some (.int .u8 (zs.getD k 0)) := (hP.out.below.cell (World.block_lt_of_cell? _ _ g1)).trans g1
      obtain ⟨⟨u, cu⟩, fu, hP2⟩ := hP.out.next hlt hz
      obtain ⟨z, hzz⟩ : ∃ z, z = zs.getD k 0 := ⟨_, rfl⟩
      rw [← hzz] at hP2 g2
      have HP2 := hid hP2
      have hlt' : (k : Int) < (n : Int) := by omega
      clear hP2 g1 hzz
      go_wp2
      go_roundw
      case rel => exact ⟨k + 1, by omega, by go_num, HP2⟩
      case measure => simp [intOf]; omega
    · obtain rfl : k = n := by omega
      go_wp2
      go_ret
      exact ⟨_, rfl, hP.out.owns hz (by omega), hP.out.below⟩

theorem clone_own (a : Option Addr) (n c : Nat) (zs : List Int) (w : World) (hz : zs.length = n) (hn : n ≤ 2097152) (ha : a = none → n = 0 ∧ c = 0) (hc : Lies w a zs) :
    Calls Try.prog 11 #[.slice a n c] w fun e w' => ∃ v, e = .returned v ∧ w'.ownsRow w.heap.size 5 1 v n (bc zs) ∧ Below w.heap.size w w' := by
  cases a with
  | none =>
    obtain ⟨rfl, rfl⟩ := ha rfl
    obtain rfl := List.eq_nil_of_length_eq_zero hz
    refine (clone_nil w).mono ?_
    rintro e w' ⟨rfl, rfl⟩
    exact ⟨_, rfl, World.ownsRow_nil _ _ _ _, Below.refl _ _⟩
  | some x =>
    by_cases h0 : n = 0
    · subst h0
      obtain rfl := List.eq_nil_of_length_eq_zero hz
      exact clone_zero x c w
    · obtain ⟨b, o, hx, g⟩ := addr_of hc (by omega)
      obtain rfl := Option.some.inj hx
      exact clone_some b o n c zs w hz hn (fun j hj => g j (by omega))
end Go.Proofs.Qxb6608763a
