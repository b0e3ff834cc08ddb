/-
  Seat b6608669aD: the law's own helpers: zzClone, zzCloneRoom, zzEqual, zzHasPrefix, zzConcat. By an AI agent.
-/
import Derived.Test.Qxb6608669aDoorRows
import Derived.WalkKit
import Derived.ProofKit
import Derived.Laws.CopyOwn
import Derived.Deep.QuietTactic
import Derived.BigQuiet
import Derived.Deep.OwnRows
import Derived.WalkSpells
import Derived.WalkLawsBesides
namespace Go.Proofs.Qxb6608669aDoor
open Go.RowKit

theorem Tryd.info5 : (Tryd.prog.info? 5).map (fun i => (i.zero, i.size, i.bytes)) = some (some (.int .u8 0), 1, 1) := by kernel_rfl
theorem Tryd.size5 : (Tryd.prog.info? 5).map (·.size) = some 1 := by kernel_rfl

/-- The cells of a list of bytes, given as numbers. -/
def bc (zs : List Int) : List Value := zs.map (Value.int .u8)
theorem bc_length (zs : List Int) : (bc zs).length = zs.length := by simp [bc]
theorem bc_append (a b : List Int) : bc (a ++ b) = bc a ++ bc b := by simp [bc]
theorem bc_one (zs : List Int) : ∀ v ∈ bc zs, v.oneCell' = true := ints_oneCell _ _
theorem bc_get {zs : List Int} {j : Nat} {v : Value} (h : (bc zs)[j]? = some v) : j < zs.length ∧ v = .int .u8 (zs.getD j 0) := by
  obtain ⟨hj, hv⟩ := List.getElem?_eq_some_iff.1 h
  have hj' : j < zs.length := by simpa [bc] using hj
  refine ⟨hj', ?_⟩
  rw [← hv]
  simp [bc, List.getD, hj']
theorem bc_at (zs : List Int) (j : Nat) (h : j < zs.length) : (bc zs)[j]? = some (.int .u8 (zs.getD j 0)) := by simp [bc, List.getD, h]

/-- A block just laid, its row laid anew: as if it had been laid so. -/
theorem setRow_alloc (w : World) (c d : Array Value) (t : TypeId) : (w.alloc (.cells c t)).setRow w.heap.size d = w.alloc (.cells d t) := by
  unfold World.setRow World.alloc
  congr 1
  apply Array.ext
  · simp
  · intro k h1 h2
    simp only [Array.getElem_modify, Array.getElem_push]
    by_cases hk : k < w.heap.size
    · simp [hk, Nat.ne_of_gt hk]
    · have : w.heap.size = k := by simp at h2; omega
      subst this; simp

theorem alloc_at (w : World) (o : Obj) : (w.alloc o).heap[w.heap.size]? = some o := by
  show (w.heap.push o)[w.heap.size]? = _
  simp

/-- The numbers zs lie from address a on. -/
def Lies (w : World) (a : Option Addr) (zs : List Int) : Prop := ∀ j, j < zs.length → ∃ x, a = some x ∧ w.cell? (x.add j) = some (.int .u8 (zs.getD j 0))

theorem Lies.src {w : World} {x : Addr} {zs : List Int} (h : Lies w (some x) zs) : ∀ j v, (bc zs)[j]? = some v → w.cell? (x.add j) = some v := by
  intro j v hv
  obtain ⟨hj, rfl⟩ := bc_get hv
  obtain ⟨y, hy, hc⟩ := h j hj
  obtain rfl := Option.some.inj hy
  exact hc

theorem Lies.src_alloc {w : World} {x : Addr} {zs : List Int} (o : Obj) (h : Lies w (some x) zs) : ∀ j v, (bc zs)[j]? = some v → (w.alloc o).cell? (x.add j) = some v := by
  intro j v hv
  have hc := h.src j v hv
  rw [World.cell?_alloc_lt _ _ _ (World.block_lt_of_cell? _ _ hc), hc]

theorem Lies.below {w w' : World} {a : Option Addr} {zs : List Int} (h : Lies w a zs) (hb : Below w.heap.size w w') : Lies w' a zs := fun j hj => by
  obtain ⟨x, hx, hc⟩ := h j hj
  exact ⟨x, hx, (hb.cell (World.block_lt_of_cell? _ _ hc)).trans hc⟩

theorem Lies.drewN {w : World} {a : Option Addr} {zs : List Int} (h : Lies w a zs) (k : Nat) : Lies (w.drewN k) a zs := h

theorem Lies.nil (w : World) (a : Option Addr) : Lies w a [] := fun j hj => by simp at hj

theorem lies_alloc (w : World) (zs : List Int) (r : List Value) (t : TypeId) : Lies (w.alloc (.cells (bc zs ++ r).toArray t)) (some ⟨w.heap.size, 0, none⟩) zs := fun j hj => by
  refine ⟨_, rfl, ?_⟩
  rw [Addr.add_lit, Nat.zero_add, World.cell?_alloc_new]
  simp [List.getElem?_append, bc, hj, List.getD]

/-- What a value that owns a row holds. -/
theorem lies_owns {w : World} {B : Nat} {v : Value} {n : Nat} {zs : List Int} (h : w.ownsRow B 5 1 v n (bc zs)) : ∃ a c, v = .slice a n c ∧ zs.length = n ∧ (a = none → n = 0 ∧ c = 0) ∧ Lies w a zs := by
  have hl : zs.length = n := by have := h.1; simpa [bc] using this
  rcases h.2 with ⟨rfl, rfl⟩ | ⟨g, cap, cur, rfl, _, _, _⟩
  · refine ⟨none, 0, rfl, hl, fun _ => ⟨rfl, rfl⟩, fun j hj => by omega⟩
  · refine ⟨_, cap, rfl, hl, (fun h => by cases h), fun j hj => ⟨_, rfl, ?_⟩⟩
    exact h.cells (g := g) rfl j _ (bc_at zs j hj)

theorem addr_of {w : World} {a : Option Addr} {zs : List Int} (h : Lies w a zs) (h0 : 0 < zs.length) : ∃ b off, a = some ⟨b, off, none⟩ ∧ ∀ j, j < zs.length → w.cell? ⟨b, off + j, none⟩ = some (.int .u8 (zs.getD j 0)) := by
  obtain ⟨x, rfl, hx⟩ := h 0 h0
  obtain ⟨b, off, spot⟩ := x
  have hspot : spot = none := by simpa [Addr.add] using World.cell?_spot hx
  subst hspot
  refine ⟨b, off, rfl, fun j hj => ?_⟩
  obtain ⟨y, hy, hc⟩ := h j hj
  obtain rfl := Option.some.inj hy
  rw [← Addr.add_lit]; exact hc

/-! ### zzClone -/
set_option maxHeartbeats 400000 in
theorem clone_nil (w : World) : Calls Tryd.prog 8 #[.slice none 0 0] w fun e w' => e = .returned (.slice none 0 0) ∧ w' = w := by
  have hnil := fun (w : World) (a : Option Addr) (n c : Nat) => Lib.run_eql_slice_nil (P := Tryd.prog) w 22 5 a n c 0 0 Tryd.underlying22
  go_enter Tryd.func8, Tryd.ntmps8
  go_wp2
  go_ret
  exact ⟨rfl, rfl⟩

set_option maxHeartbeats 400000 in
theorem clone_some (x : Addr) (n c : Nat) (zs : List Int) (w : World) (hz : zs.length = n) (hn : n ≤ 2097152) (hc : Lies w (some x) zs) :
    Calls Tryd.prog 8 #[.slice (some x) n c] w fun e w' => e = .returned (.slice (some ⟨w.heap.size, 0, none⟩) n n) ∧ w' = w.alloc (.cells (bc zs).toArray 5) := by
  have hnil := fun (w : World) (a : Option Addr) (n c : Nat) => Lib.run_eql_slice_nil (P := Tryd.prog) w 22 5 a n c 0 0 Tryd.underlying22
  have hmk := run_make_row' (P := Tryd.prog) 22 5 (.int .u8 0) 1 Tryd.underlying22 Tryd.info5 rfl .i64 .i64 n (by omega) (by omega)
  have hcp := run_copy_row (P := Tryd.prog) (w.alloc (.cells (madeCells #[.int .u8 0] n) 5)) 22 22 3 5 w.heap.size 0 n n x n c (madeCells #[.int .u8 0] n) 5 (bc zs) Tryd.underlying22 Tryd.size5
    (alloc_at _ _) (by simp [bc, hz]) (hc.src_alloc _) (by simp [bc, hz, size_madeCells]) (bc_one _)
  rw [setRow_alloc] at hcp
  have hd : (madeCells #[Value.int .u8 0] n).toList.drop (0 + (bc zs).length) = [] := by simp [bc, hz, size_madeCells]
  rw [hd, List.take_zero, List.nil_append, List.append_nil, bc_length, hz] at hcp
  go_enter Tryd.func8, Tryd.ntmps8
  go_wp2
  go_ret
  exact ⟨rfl, rfl⟩

theorem clone_any (a : Option Addr) (n c : Nat) (zs : List Int) (w : World) (hz : zs.length = n) (hn : n ≤ 2097152) (ha : a = none → n = 0 ∧ c = 0) (hc : Lies w a zs) :
    Calls Tryd.prog 8 #[.slice a n c] w fun e w' => ∃ a' c', e = .returned (.slice a' n c') ∧ (a' = none → n = 0 ∧ c' = 0) ∧ Lies w' a' zs ∧ Below w.heap.size w w' := by
  cases a with
  | none =>
    obtain ⟨rfl, rfl⟩ := ha rfl
    refine (clone_nil w).mono ?_
    rintro e w' ⟨rfl, rfl⟩
    exact ⟨none, 0, rfl, fun _ => ⟨rfl, rfl⟩, hc, Below.refl _ _⟩
  | some x =>
    refine (clone_some x n c zs w hz hn hc).mono ?_
    rintro e w' ⟨rfl, rfl⟩
    refine ⟨_, _, rfl, (fun h => by cases h), ?_, (Below.refl _ _).alloc (Nat.le_refl _) _⟩
    simpa using lies_alloc w zs [] 5

/-! ### zzCloneRoom -/
set_option maxHeartbeats 400000 in
theorem room_nil0 (w : World) : Calls Tryd.prog 10 #[.slice none 0 0, .int .i64 0] w fun e w' => e = .returned (.slice none 0 0) ∧ w' = w := by
  have hnil := fun (w : World) (a : Option Addr) (n c : Nat) => Lib.run_eql_slice_nil (P := Tryd.prog) w 22 5 a n c 0 0 Tryd.underlying22
  go_enter Tryd.func10, Tryd.ntmps10
  go_wp2
  go_ret
  exact ⟨rfl, rfl⟩

set_option maxHeartbeats 400000 in
theorem room_nil (r : Nat) (w : World) (hr : r ≤ 255) (h0 : 0 < r) : Calls Tryd.prog 10 #[.slice none 0 0, .int .i64 (r : Int)] w fun e w' => e = .returned (.slice (some ⟨w.heap.size, 0, none⟩) 0 r) ∧ w' = w.alloc (.cells (List.replicate r (Value.int .u8 0)).toArray 5) := by
  have hnil := fun (w : World) (a : Option Addr) (n c : Nat) => Lib.run_eql_slice_nil (P := Tryd.prog) w 22 5 a n c 0 0 Tryd.underlying22
  have hr0 : ((r : Int) == 0) = false := by simp; omega
  have hmk : ∀ W : World, (Instr.makeSlice 22 (.int .i64 0) (.int .i64 (r : Int))).run Tryd.prog W = .ok (.slice (some ⟨W.heap.size, 0, none⟩) 0 r) (W.alloc (.cells (List.replicate r (Value.int .u8 0)).toArray 5)) := fun W => by
    obtain ⟨i, hi, hz0, hz1, hz2⟩ := info_parts Tryd.info5
    have h := run_make (P := Tryd.prog) W 22 5 i (.int .u8 0) Tryd.underlying22 hi hz0 .i64 .i64 0 r (by omega) (by omega) (by rw [hz2]; omega) (by omega)
    have e : madeCells (Value.int .u8 0).cells r = (List.replicate r (Value.int .u8 0)).toArray := by
      rw [← toList_madeCells_one]; rfl
    rw [h, hz1, Int.toNat_natCast, Nat.mul_one, e]; rfl
  have hcp := fun W : World => run_copy_nil (P := Tryd.prog) W 22 22 3 5 ⟨w.heap.size, 0, none⟩ 0 r Tryd.underlying22 (by rw [Tryd.size5]; rfl)
  go_enter Tryd.func10, Tryd.ntmps10
  go_wp2
  go_ret
  exact ⟨rfl, rfl⟩

set_option maxHeartbeats 400000 in
theorem room_some (x : Addr) (n c r : Nat) (zs : List Int) (w : World) (hz : zs.length = n) (hn : n ≤ 2097152) (hr : r ≤ 255) (hc : Lies w (some x) zs) :
    Calls Tryd.prog 10 #[.slice (some x) n c, .int .i64 (r : Int)] w fun e w' => e = .returned (.slice (some ⟨w.heap.size, 0, none⟩) n (n + r)) ∧ w' = w.alloc (.cells (bc zs ++ List.replicate r (Value.int .u8 0)).toArray 5) := by
  have hnil := fun (w : World) (a : Option Addr) (n c : Nat) => Lib.run_eql_slice_nil (P := Tryd.prog) w 22 5 a n c 0 0 Tryd.underlying22
  have hmk : ∀ W : World, (Instr.makeSlice 22 (.int .i64 (n : Int)) (.int .i64 ((n : Int) + (r : Int)))).run Tryd.prog W = .ok (.slice (some ⟨W.heap.size, 0, none⟩) n (n + r)) (W.alloc (.cells (madeCells #[.int .u8 0] (n + r)) 5)) := fun W => by
    obtain ⟨i, hi, hz0, hz1, hz2⟩ := info_parts Tryd.info5
    have h := run_make (P := Tryd.prog) W 22 5 i (.int .u8 0) Tryd.underlying22 hi hz0 .i64 .i64 n (n + r) (by omega) (by omega) (by rw [hz2]; omega) (by omega)
    rw [h, hz1, show ((n : Int) + (r : Int)).toNat = n + r from by omega, Int.toNat_natCast, Nat.mul_one]; rfl
  have hcp := run_copy_row (P := Tryd.prog) (w.alloc (.cells (madeCells #[.int .u8 0] (n + r)) 5)) 22 22 3 5 w.heap.size 0 n (n + r) x n c (madeCells #[.int .u8 0] (n + r)) 5 (bc zs) Tryd.underlying22 Tryd.size5
    (alloc_at _ _) (by simp [bc, hz]) (hc.src_alloc _) (by simp [bc, hz, size_madeCells]) (bc_one _)
  rw [setRow_alloc] at hcp
  have hd : (madeCells #[Value.int .u8 0] (n + r)).toList.drop (0 + (bc zs).length) = List.replicate r (.int .u8 0) := by
    rw [toList_madeCells_one]; simp [bc, hz]
  rw [hd, List.take_zero, List.nil_append, bc_length, hz] at hcp
  go_enter Tryd.func10, Tryd.ntmps10
  go_wp2
  go_ret
  exact ⟨rfl, rfl⟩

/-- zzCloneRoom: the same bytes in a row of the call's own (or nil). -/
theorem room_any (a : Option Addr) (n c r : Nat) (zs : List Int) (w : World) (hz : zs.length = n) (hn : n ≤ 2097152) (hr : r ≤ 255) (ha : a = none → n = 0 ∧ c = 0) (hc : Lies w a zs) :
    Calls Tryd.prog 10 #[.slice a n c, .int .i64 (r : Int)] w fun e w' => ∃ v, e = .returned v ∧ w'.ownsRow w.heap.size 5 1 v n (bc zs) ∧ Below w.heap.size w w' := by
  cases a with
  | none =>
    obtain ⟨rfl, rfl⟩ := ha rfl
    obtain rfl := List.eq_nil_of_length_eq_zero hz
    by_cases h0 : r = 0
    · subst h0
      refine (room_nil0 w).mono ?_
      rintro e w' ⟨rfl, rfl⟩
      exact ⟨_, rfl, World.ownsRow_nil _ _ _ _, Below.refl _ _⟩
    · refine (room_nil r w hr (by omega)).mono ?_
      rintro e w' ⟨rfl, rfl⟩
      exact ⟨_, rfl, World.ownsRow_made w _ r (Nat.le_refl _) (by unfold maxLen; omega) (by simp), (Below.refl _ _).alloc (Nat.le_refl _) _⟩
  | some x =>
    refine (room_some x n c r zs w hz hn hr hc).mono ?_
    rintro e w' ⟨rfl, rfl⟩
    refine ⟨_, rfl, ⟨by simp [bc, hz], .inr ⟨w.heap.size, n + r, (bc zs ++ List.replicate r (Value.int .u8 0)).toArray, rfl, Nat.le_refl _, alloc_at _ _, by omega, by unfold maxLen; omega, by simp [bc, hz], ?_⟩⟩, (Below.refl _ _).alloc (Nat.le_refl _) _⟩
    rw [Nat.mul_one, ← hz, ← bc_length zs]
    simp

/-! ### zzEqual -/
set_option maxHeartbeats 400000 in
theorem equal_none (a1 a2 : Option Addr) (c1 c2 : Nat) (w : World) :
    Calls Tryd.prog 13 #[.slice a1 0 c1, .slice a2 0 c2] w fun e w' => e = .returned (.bool true) ∧ w' = w := by
  go_enter Tryd.func13, Tryd.ntmps13
  go_wp2
  go_loop [5] (fun i => i = .int .i64 0) (fun _ => 0)
  case atStart => rfl
  case round =>
    obtain rfl := hrel
    go_wp2
    go_ret
    exact ⟨rfl, rfl⟩

set_option maxHeartbeats 400000 in
theorem equal_some (b1 o1 b2 o2 n c1 c2 : Nat) (zs : List Int) (w : World) (hn : n ≤ 4194304)
    (h1 : ∀ j, j < n → w.cell? ⟨b1, o1 + j, none⟩ = some (.int .u8 (zs.getD j 0))) (h2 : ∀ j, j < n → w.cell? ⟨b2, o2 + j, none⟩ = some (.int .u8 (zs.getD j 0))) :
    Calls Tryd.prog 13 #[.slice (some ⟨b1, o1, none⟩) n c1, .slice (some ⟨b2, o2, none⟩) n c2] w fun e w' => e = .returned (.bool true) ∧ ∃ k, w' = w.drewN k := by
  go_enter Tryd.func13, Tryd.ntmps13
  go_wp2
  go_loopw [5] (fun i wr => (∃ k : Nat, k ≤ n ∧ i = .int .i64 k) ∧ ∃ m, wr = w.drewN m) (fun i _ => n - (intOf i).toNat)
  case atStart => exact ⟨⟨0, Nat.zero_le _, rfl⟩, 0, rfl⟩
  case round =>
    obtain ⟨⟨k, hk, rfl⟩, m, rfl⟩ := hrel
    by_cases hlt : k < n
    · have g1 := h1 k hlt
      have g2 := h2 k hlt
      have hlt' : (k : Int) < (n : Int) := by omega
      go_wp2
      go_quiet (fail)
      go_wp2
      go_roundw
      case rel => exact ⟨⟨k + 1, by omega, by go_num⟩, _, rfl⟩
      case measure => simp [intOf]; omega
    · go_wp2
      go_ret
      exact ⟨rfl, m, rfl⟩

theorem equal_any (a1 a2 : Option Addr) (n c1 c2 : Nat) (zs : List Int) (w : World) (hz : zs.length = n) (hn : n ≤ 4194304) (h1 : Lies w a1 zs) (h2 : Lies w a2 zs) :
    Calls Tryd.prog 13 #[.slice a1 n c1, .slice a2 n c2] w fun e w' => e = .returned (.bool true) ∧ ∃ k, w' = w.drewN k := by
  by_cases h0 : n = 0
  · subst h0
    refine (equal_none a1 a2 c1 c2 w).mono ?_
    rintro e w' ⟨rfl, rfl⟩
    exact ⟨rfl, 0, rfl⟩
  · obtain ⟨b1, o1, rfl, g1⟩ := addr_of h1 (by omega)
    obtain ⟨b2, o2, rfl, g2⟩ := addr_of h2 (by omega)
    exact equal_some b1 o1 b2 o2 n c1 c2 zs w hn (fun j hj => g1 j (by omega)) (fun j hj => g2 j (by omega))

/-! ### zzHasPrefix -/
set_option maxHeartbeats 400000 in
theorem prefix_none (a1 a2 : Option Addr) (n c1 c2 : Nat) (w : World) :
    Calls Tryd.prog 26 #[.slice a1 n c1, .slice a2 0 c2] w fun e w' => e = .returned (.bool true) ∧ w' = w := by
  go_enter Tryd.func26, Tryd.ntmps26
  go_wp2
  go_loop [5] (fun i => i = .int .i64 0) (fun _ => 0)
  case atStart => rfl
  case round =>
    obtain rfl := hrel
    go_wp2
    go_ret
    exact ⟨rfl, rfl⟩

set_option maxHeartbeats 400000 in
theorem prefix_some (b1 o1 b2 o2 m n c1 c2 : Nat) (zs : List Int) (w : World) (hn : n ≤ 4194304) (hm : n ≤ m)
    (h1 : ∀ j, j < n → w.cell? ⟨b1, o1 + j, none⟩ = some (.int .u8 (zs.getD j 0))) (h2 : ∀ j, j < n → w.cell? ⟨b2, o2 + j, none⟩ = some (.int .u8 (zs.getD j 0))) :
    Calls Tryd.prog 26 #[.slice (some ⟨b1, o1, none⟩) m c1, .slice (some ⟨b2, o2, none⟩) n c2] w fun e w' => e = .returned (.bool true) ∧ ∃ k, w' = w.drewN k := by
  go_enter Tryd.func26, Tryd.ntmps26
  go_wp2
  go_loopw [5] (fun i wr => (∃ k : Nat, k ≤ n ∧ i = .int .i64 k) ∧ ∃ m, wr = w.drewN m) (fun i _ => n - (intOf i).toNat)
  case atStart => exact ⟨⟨0, Nat.zero_le _, rfl⟩, 0, rfl⟩
  case round =>
    obtain ⟨⟨k, hk, rfl⟩, q, rfl⟩ := hrel
    by_cases hlt : k < n
    · have g1 := h1 k hlt
      have g2 := h2 k hlt
      have hlt' : (k : Int) < (n : Int) := by omega
      have hlm' : (k : Int) < (m : Int) := by omega
      go_wp2
      go_quiet (fail)
      go_wp2
      go_roundw
      case rel => exact ⟨⟨k + 1, by omega, by go_num⟩, _, rfl⟩
      case measure => simp [intOf]; omega
    · go_wp2
      go_ret
      exact ⟨rfl, q, rfl⟩

theorem prefix_any (a1 a2 : Option Addr) (m n c1 c2 : Nat) (zs ys : List Int) (w : World) (hz : zs.length = n) (hm : zs.length + ys.length = m) (hn : n ≤ 4194304) (h1 : Lies w a1 (zs ++ ys)) (h2 : Lies w a2 zs) :
    Calls Tryd.prog 26 #[.slice a1 m c1, .slice a2 n c2] w fun e w' => e = .returned (.bool true) ∧ ∃ k, w' = w.drewN k := by
  by_cases h0 : n = 0
  · subst h0
    refine (prefix_none a1 a2 m c1 c2 w).mono ?_
    rintro e w' ⟨rfl, rfl⟩
    exact ⟨rfl, 0, rfl⟩
  · obtain ⟨b1, o1, rfl, g1⟩ := addr_of h1 (by simp; omega)
    obtain ⟨b2, o2, rfl, g2⟩ := addr_of h2 (by omega)
    refine prefix_some b1 o1 b2 o2 m n c1 c2 zs w hn (by omega) (fun j hj => ?_) (fun j hj => g2 j (by omega))
    rw [g1 j (by simp; omega)]
    simp [List.getD, List.getElem?_append, show j < zs.length by omega]

end Go.Proofs.Qxb6608669aDoor
