/-
  Seat b6606004aF: rows of cells, the laws' own helpers. By an AI agent.
-/
import Derived.Test.Qxb6606004aFmtRows
import Derived.WalkKit
import Derived.ProofKit
import Derived.Deep.QuietTactic
import Derived.BigQuiet
import Derived.Deep.OwnRows
import Derived.WalkSpells
import Derived.WalkLawsBesides
namespace Go.Proofs.Qxb6606004aFmt
open Go.RowKit

theorem Tryf.info2 : (Tryf.prog.info? 2).map (fun i => (i.zero, i.size, i.bytes)) = some (some (.int .i64 0), 1, 8) := by kernel_rfl
theorem Tryf.info43 : (Tryf.prog.info? 43).map (fun i => (i.zero, i.size, i.bytes)) = some (some (.float .f64 0), 1, 8) := by kernel_rfl
theorem Tryf.info52 : (Tryf.prog.info? 52).map (fun i => (i.zero, i.size, i.bytes)) = some (some (.int .i64 0), 1, 8) := by kernel_rfl

theorem hid {p : Prop} (h : p) : Hid p := h
theorem frozen_of_block {w : World} {b : Nat} {cs : Array Value} {T : TypeId} (h : w.heap[b]? = some (.cells cs T (0, 0))) (i : Nat) : w.frozen? ⟨b, i, none⟩ = false := by simp [World.frozen?, h]
theorem cell_of_block {w : World} {b : Nat} {cs : Array Value} {T : TypeId} (h : w.heap[b]? = some (.cells cs T (0, 0))) (i : Nat) : w.cell? ⟨b, i, none⟩ = cs[i]? := by simp [World.cell?, h]
theorem alloc_at (w : World) (o : Obj) : (w.alloc o).heap[w.heap.size]? = some o := by
  show (w.heap.push o)[w.heap.size]? = _
  simp
theorem below_drewN' {B : Nat} {w0 w : World} (h : Below B w0 w) (k : Nat) : Below B w0 (w.drewN k) := ⟨h.os, h.tape, h.output, h.size, h.block⟩
theorem Below.then {w w1 w2 : World} (h : Below w.heap.size w w1) (k : Below w1.heap.size w1 w2) : Below w.heap.size w w2 := h.trans (k.mono h.size)

/-- The cells f 0, .., f (n - 1) lie from address a on. -/
def VL (w : World) (a : Option Addr) (n : Nat) (f : Nat → Value) : Prop := ∀ j, j < n → ∃ x, a = some x ∧ w.cell? (x.add j) = some (f j)

theorem VL.below {w w' : World} {a : Option Addr} {n : Nat} {f : Nat → Value} (h : VL w a n f) (hb : Below w.heap.size w w') : VL w' a n f := fun j hj => by
  obtain ⟨x, hx, hc⟩ := h j hj
  exact ⟨x, hx, (hb.cell (World.block_lt_of_cell? _ _ hc)).trans hc⟩
theorem VL.drewN {w : World} {a : Option Addr} {n : Nat} {f : Nat → Value} (h : VL w a n f) (k : Nat) : VL (w.drewN k) a n f := h
theorem VL.zero (w : World) (a : Option Addr) (f : Nat → Value) : VL w a 0 f := fun j hj => by omega

theorem addr_of {w : World} {a : Option Addr} {n : Nat} {f : Nat → Value} (h : VL w a n f) (h0 : 0 < n) : ∃ b off, a = some ⟨b, off, none⟩ ∧ ∀ j, j < n → w.cell? ⟨b, off + j, none⟩ = some (f j) := by
  obtain ⟨x, rfl, hx⟩ := h 0 h0
  obtain ⟨b, off, spot⟩ := x
  have hspot : spot = none := by simpa [Addr.add] using World.cell?_spot hx
  subst hspot
  refine ⟨b, off, rfl, fun j hj => ?_⟩
  obtain ⟨y, hy, hc⟩ := h j hj
  obtain rfl := Option.some.inj hy
  rw [← Addr.add_lit]; exact hc

/-- A row laid cell by cell. -/
structure Part (w wr : World) (T g n k : Nat) (f : Nat → Value) : Prop where
  row : ∃ cs : List Value, wr.heap[g]? = some (.cells cs.toArray T (0, 0)) ∧ cs.length = n ∧ ∀ j, j < k → cs[j]? = some (f j)
  below : Below w.heap.size w wr
  ge : w.heap.size ≤ g

theorem Part.next {w wr : World} {T g n k : Nat} {f : Nat → Value} (h : Part w wr T g n k f) (hk : k < n) :
    (∃ u, wr.cell? ⟨g, k, none⟩ = some u) ∧ wr.frozen? ⟨g, k, none⟩ = false ∧ Part w (wr.setCell ⟨g, k, none⟩ (f k)) T g n (k + 1) f := by
  obtain ⟨⟨cs, e1, h2, h3⟩, hb, hg⟩ := h
  refine ⟨⟨cs[k]'(by omega), by rw [cell_of_block e1]; simp [h2, hk]⟩, frozen_of_block e1 k, ⟨⟨cs.set k (f k), ?_, by simp [h2], ?_⟩, hb.setCell (p := ⟨g, k, none⟩) hg _, hg⟩⟩
  · rw [heap_setCell_same _ _ k _ _ _ e1]
    simp
  · intro j hj
    rw [List.getElem?_set]
    by_cases hjk : k = j
    · subst hjk
      simp [h2, hk]
    · rw [if_neg hjk]
      exact h3 j (by omega)

theorem Part.lies {w wr : World} {T g n : Nat} {f : Nat → Value} (h : Part w wr T g n n f) : VL wr (some ⟨g, 0, none⟩) n f := by
  obtain ⟨⟨cs, h1, h2, h3⟩, hb, hg⟩ := h
  intro j hj
  refine ⟨_, rfl, ?_⟩
  rw [Addr.add_lit, Nat.zero_add, cell_of_block h1]
  simpa using h3 j hj

theorem Part.begin (w : World) (T n : Nat) (z : Value) (f : Nat → Value) : Part w (w.alloc (.cells (madeCells #[z] n) T)) T w.heap.size n 0 f :=
  ⟨⟨(madeCells #[z] n).toList, by rw [alloc_at], by simp [size_madeCells], fun j hj => by omega⟩, (Below.refl _ _).alloc (Nat.le_refl _) _, Nat.le_refl _⟩

/-- What a clone hands back. -/
def Got (e : Ending) (w w' : World) (n : Nat) (f : Nat → Value) : Prop := ∃ a c, e = .returned (.slice a n c) ∧ Hid (VL w' a n f ∧ Below w.heap.size w w')

/-! ### function 8: a clone -/
set_option maxHeartbeats 400000 in
theorem nil8 (w : World) : Calls Tryf.prog 8 #[.slice none 0 0] w fun e w' => e = .returned (.slice none 0 0) ∧ w' = w := by
  have hnil := fun (w : World) (a : Option Addr) (n c : Nat) => Lib.run_eql_slice_nil (P := Tryf.prog) w 22 2 a n c 0 0 Tryf.underlying22
  go_enter Tryf.func8, Tryf.ntmps8
  go_wp2
  go_ret
  exact ⟨rfl, rfl⟩

set_option maxRecDepth 100000 in
set_option maxHeartbeats 400000 in
theorem some8 (x : Addr) (n c : Nat) (t : Nat → Int) (w : World) (hn : n ≤ 1048576) (h : VL w (some x) n (fun j => .int .i64 (t j))) :
    Calls Tryf.prog 8 #[.slice (some x) n c] w fun e w' => Got e w w' n (fun j => .int .i64 (t j)) := by
  have hnil := fun (w : World) (a : Option Addr) (n c : Nat) => Lib.run_eql_slice_nil (P := Tryf.prog) w 22 2 a n c 0 0 Tryf.underlying22
  have hmk := run_make_row' (P := Tryf.prog) 22 2 (.int .i64 0) 8 Tryf.underlying22 Tryf.info2 rfl .i64 .i64 n (by omega) (by omega)
  have HP := hid (Part.begin w 2 n (.int .i64 0) (fun j => .int .i64 (t j)))
  obtain ⟨A, hA⟩ : ∃ A, A = madeCells #[.int .i64 0] n := ⟨_, rfl⟩
  rw [← hA] at hmk HP
  have HX := hid h
  clear h hA
  go_enter Tryf.func8, Tryf.ntmps8
  go_wp2
  go_loopw [4] (fun i wr => ∃ k : Nat, k ≤ n ∧ i = .int .i64 k ∧ Hid (Part w wr 2 w.heap.size n k (fun j => .int .i64 (t j)))) (fun i _ => n - (intOf i).toNat)
  case atStart => exact ⟨0, Nat.zero_le _, rfl, HP⟩
  case round =>
    obtain ⟨k, hk, rfl, hP⟩ := hrel
    by_cases hlt : k < n
    · obtain ⟨b, o, hx, gx⟩ := addr_of HX.out (by omega)
      obtain rfl := Option.some.inj hx
      have g1 := gx k hlt
      have g2 : wr.cell? ⟨b, o + k, none⟩ = some (.int .i64 (t k)) := (hP.out.below.cell (World.block_lt_of_cell? _ _ g1)).trans g1
      obtain ⟨⟨u, cu⟩, fu, hP2⟩ := hP.out.next hlt
      obtain ⟨z, hzz⟩ : ∃ z, z = t k := ⟨_, rfl⟩
      rw [← hzz] at g2
      simp only [← hzz] at hP2
      have HP2 := hid hP2
      have hlt' : (k : Int) < (n : Int) := by omega
      clear hP2 g1 hzz gx hx
      go_wp2
      go_roundw
      case rel => exact ⟨k + 1, by omega, by go_num, HP2⟩
      case measure => simp [intOf]; omega
    · obtain rfl : k = n := by omega
      go_wp2
      go_ret
      exact ⟨_, _, rfl, hP.out.lies, hP.out.below⟩

theorem clone8 (a : Option Addr) (n c : Nat) (t : Nat → Int) (w : World) (hn : n ≤ 1048576) (ha : a = none → n = 0 ∧ c = 0) (h : VL w a n (fun j => .int .i64 (t j))) :
    Calls Tryf.prog 8 #[.slice a n c] w fun e w' => Got e w w' n (fun j => .int .i64 (t j)) := by
  cases a with
  | none =>
    obtain ⟨rfl, rfl⟩ := ha rfl
    refine (nil8 w).mono ?_
    rintro e w' ⟨rfl, rfl⟩
    exact ⟨none, 0, rfl, VL.zero _ _ _, Below.refl _ _⟩
  | some x => exact some8 x n c t w hn h

/-! ### function 19: a clone -/
set_option maxHeartbeats 400000 in
theorem nil19 (w : World) : Calls Tryf.prog 19 #[.slice none 0 0] w fun e w' => e = .returned (.slice none 0 0) ∧ w' = w := by
  have hnil := fun (w : World) (a : Option Addr) (n c : Nat) => Lib.run_eql_slice_nil (P := Tryf.prog) w 37 43 a n c 0 0 Tryf.underlying37
  go_enter Tryf.func19, Tryf.ntmps19
  go_wp2
  go_ret
  exact ⟨rfl, rfl⟩

set_option maxRecDepth 100000 in
set_option maxHeartbeats 400000 in
theorem some19 (x : Addr) (n c : Nat) (t : Nat → Nat) (w : World) (hn : n ≤ 1048576) (h : VL w (some x) n (fun j => .float .f64 (t j))) :
    Calls Tryf.prog 19 #[.slice (some x) n c] w fun e w' => Got e w w' n (fun j => .float .f64 (t j)) := by
  have hnil := fun (w : World) (a : Option Addr) (n c : Nat) => Lib.run_eql_slice_nil (P := Tryf.prog) w 37 43 a n c 0 0 Tryf.underlying37
  have hst := fun (W : World) (a : Addr) (z : Nat) => run_store Tryf.prog W a (.float .f64 z) .plain rfl
  have hmk := run_make_row' (P := Tryf.prog) 37 43 (.float .f64 0) 8 Tryf.underlying37 Tryf.info43 rfl .i64 .i64 n (by omega) (by omega)
  have HP := hid (Part.begin w 43 n (.float .f64 0) (fun j => .float .f64 (t j)))
  obtain ⟨A, hA⟩ : ∃ A, A = madeCells #[.float .f64 0] n := ⟨_, rfl⟩
  rw [← hA] at hmk HP
  have HX := hid h
  clear h hA
  go_enter Tryf.func19, Tryf.ntmps19
  go_wp2
  go_loopw [4] (fun i wr => ∃ k : Nat, k ≤ n ∧ i = .int .i64 k ∧ Hid (Part w wr 43 w.heap.size n k (fun j => .float .f64 (t j)))) (fun i _ => n - (intOf i).toNat)
  case atStart => exact ⟨0, Nat.zero_le _, rfl, HP⟩
  case round =>
    obtain ⟨k, hk, rfl, hP⟩ := hrel
    by_cases hlt : k < n
    · obtain ⟨b, o, hx, gx⟩ := addr_of HX.out (by omega)
      obtain rfl := Option.some.inj hx
      have g1 := gx k hlt
      have g2 : wr.cell? ⟨b, o + k, none⟩ = some (.float .f64 (t k)) := (hP.out.below.cell (World.block_lt_of_cell? _ _ g1)).trans g1
      obtain ⟨⟨u, cu⟩, fu, hP2⟩ := hP.out.next hlt
      obtain ⟨z, hzz⟩ : ∃ z, z = t k := ⟨_, rfl⟩
      rw [← hzz] at g2
      simp only [← hzz] at hP2
      have HP2 := hid hP2
      have hlt' : (k : Int) < (n : Int) := by omega
      clear hP2 g1 hzz gx hx
      go_wp2
      go_roundw
      case rel => exact ⟨k + 1, by omega, by go_num, HP2⟩
      case measure => simp [intOf]; omega
    · obtain rfl : k = n := by omega
      go_wp2
      go_ret
      exact ⟨_, _, rfl, hP.out.lies, hP.out.below⟩

theorem clone19 (a : Option Addr) (n c : Nat) (t : Nat → Nat) (w : World) (hn : n ≤ 1048576) (ha : a = none → n = 0 ∧ c = 0) (h : VL w a n (fun j => .float .f64 (t j))) :
    Calls Tryf.prog 19 #[.slice a n c] w fun e w' => Got e w w' n (fun j => .float .f64 (t j)) := by
  cases a with
  | none =>
    obtain ⟨rfl, rfl⟩ := ha rfl
    refine (nil19 w).mono ?_
    rintro e w' ⟨rfl, rfl⟩
    exact ⟨none, 0, rfl, VL.zero _ _ _, Below.refl _ _⟩
  | some x => exact some19 x n c t w hn h

/-! ### function 27: a clone -/
set_option maxHeartbeats 400000 in
theorem nil27 (w : World) : Calls Tryf.prog 27 #[.slice none 0 0] w fun e w' => e = .returned (.slice none 0 0) ∧ w' = w := by
  have hnil := fun (w : World) (a : Option Addr) (n c : Nat) => Lib.run_eql_slice_nil (P := Tryf.prog) w 47 52 a n c 0 0 Tryf.underlying47
  go_enter Tryf.func27, Tryf.ntmps27
  go_wp2
  go_ret
  exact ⟨rfl, rfl⟩

set_option maxRecDepth 100000 in
set_option maxHeartbeats 400000 in
theorem some27 (x : Addr) (n c : Nat) (t : Nat → Int) (w : World) (hn : n ≤ 1048576) (h : VL w (some x) n (fun j => .int .i64 (t j))) :
    Calls Tryf.prog 27 #[.slice (some x) n c] w fun e w' => Got e w w' n (fun j => .int .i64 (t j)) := by
  have hnil := fun (w : World) (a : Option Addr) (n c : Nat) => Lib.run_eql_slice_nil (P := Tryf.prog) w 47 52 a n c 0 0 Tryf.underlying47
  have hmk := run_make_row' (P := Tryf.prog) 22 2 (.int .i64 0) 8 Tryf.underlying22 Tryf.info2 rfl .i64 .i64 n (by omega) (by omega)
  have HP := hid (Part.begin w 2 n (.int .i64 0) (fun j => .int .i64 (t j)))
  obtain ⟨A, hA⟩ : ∃ A, A = madeCells #[.int .i64 0] n := ⟨_, rfl⟩
  rw [← hA] at hmk HP
  have HX := hid h
  clear h hA
  go_enter Tryf.func27, Tryf.ntmps27
  go_wp2
  go_loopw [4] (fun i wr => ∃ k : Nat, k ≤ n ∧ i = .int .i64 k ∧ Hid (Part w wr 2 w.heap.size n k (fun j => .int .i64 (t j)))) (fun i _ => n - (intOf i).toNat)
  case atStart => exact ⟨0, Nat.zero_le _, rfl, HP⟩
  case round =>
    obtain ⟨k, hk, rfl, hP⟩ := hrel
    by_cases hlt : k < n
    · obtain ⟨b, o, hx, gx⟩ := addr_of HX.out (by omega)
      obtain rfl := Option.some.inj hx
      have g1 := gx k hlt
      have g2 : wr.cell? ⟨b, o + k, none⟩ = some (.int .i64 (t k)) := (hP.out.below.cell (World.block_lt_of_cell? _ _ g1)).trans g1
      obtain ⟨⟨u, cu⟩, fu, hP2⟩ := hP.out.next hlt
      obtain ⟨z, hzz⟩ : ∃ z, z = t k := ⟨_, rfl⟩
      rw [← hzz] at g2
      simp only [← hzz] at hP2
      have HP2 := hid hP2
      have hlt' : (k : Int) < (n : Int) := by omega
      clear hP2 g1 hzz gx hx
      go_wp2
      go_roundw
      case rel => exact ⟨k + 1, by omega, by go_num, HP2⟩
      case measure => simp [intOf]; omega
    · obtain rfl : k = n := by omega
      go_wp2
      go_ret
      exact ⟨_, _, rfl, hP.out.lies, hP.out.below⟩

theorem clone27 (a : Option Addr) (n c : Nat) (t : Nat → Int) (w : World) (hn : n ≤ 1048576) (ha : a = none → n = 0 ∧ c = 0) (h : VL w a n (fun j => .int .i64 (t j))) :
    Calls Tryf.prog 27 #[.slice a n c] w fun e w' => Got e w w' n (fun j => .int .i64 (t j)) := by
  cases a with
  | none =>
    obtain ⟨rfl, rfl⟩ := ha rfl
    refine (nil27 w).mono ?_
    rintro e w' ⟨rfl, rfl⟩
    exact ⟨none, 0, rfl, VL.zero _ _ _, Below.refl _ _⟩
  | some x => exact some27 x n c t w hn h

theorem nil25 (w : World) : Calls Tryf.prog 25 #[.slice none 0 0] w fun e w' => e = .returned (.slice none 0 0) ∧ w' = w := by
  have hnil := fun (w : World) (a : Option Addr) (n c : Nat) => Lib.run_eql_slice_nil (P := Tryf.prog) w 22 2 a n c 0 0 Tryf.underlying22
  go_enter Tryf.func25, Tryf.ntmps25
  go_wp2
  go_ret
  exact ⟨rfl, rfl⟩
end Go.Proofs.Qxb6606004aFmt
