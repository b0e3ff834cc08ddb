/-
  Seat b6608669a: the walks of zzBytes, zzClone, growPayload, zzEqual, zzMinInt, zzMaxInt. By an AI agent.
-/
import Derived.Test.Qxb6608669aRows
import Derived.WalkKit
import Derived.ProofKit
import Derived.Laws.CopyOwn
import Derived.Deep.QuietTactic
import Derived.BigQuiet
import Derived.Deep.OwnRows
import Derived.WalkSpells
import Derived.WalkLawsBesides
namespace Go.Proofs.Qxb6608669a
open Go.RowKit

theorem Try.info5 : (Try.prog.info? 5).map (fun i => (i.zero, i.size, i.bytes)) = some (some (.int .u8 0), 1, 1) := by kernel_rfl
theorem Try.size5 : (Try.prog.info? 5).map (·.size) = some 1 := by kernel_rfl

/-- A block just laid, its row laid anew: as if it had been laid so. -/
theorem setRow_alloc (w : World) (c d : Array Value) (t : TypeId) : (w.alloc (.cells c t)).setRow w.heap.size d = w.alloc (.cells d t) := by
  unfold World.setRow World.alloc
  congr 1
  apply Array.ext
  · simp
  · intro k h1 h2
    simp only [Array.getElem_modify, Array.getElem_push]
    by_cases hk : k < w.heap.size
    · simp [hk, Nat.ne_of_gt hk]
    · have : w.heap.size = k := by simp at h2; omega
      subst this; simp

theorem alloc_at (w : World) (o : Obj) : (w.alloc o).heap[w.heap.size]? = some o := by
  show (w.heap.push o)[w.heap.size]? = _
  simp

/-- The numbers zs lie from address a on. -/
def Lies (w : World) (a : Option Addr) (zs : List Int) : Prop := ∀ j, j < zs.length → ∃ x, a = some x ∧ w.cell? (x.add j) = some (.int .u8 (zs.getD j 0))

theorem bytes_src {w : World} {x : Addr} {zs : List Int} (o : Obj) (h : Lies w (some x) zs) : ∀ j v, (zs.map (Value.int .u8))[j]? = some v → (w.alloc o).cell? (x.add j) = some v := by
  intro j v hv
  obtain ⟨hj, hv'⟩ := List.getElem?_eq_some_iff.1 hv
  have hj' : j < zs.length := by simpa using hj
  obtain ⟨y, hy, hc⟩ := h j hj'
  obtain rfl := Option.some.inj hy
  rw [World.cell?_alloc_lt _ _ _ (World.block_lt_of_cell? _ _ hc), hc, ← hv']
  simp [List.getD, hj']

set_option maxHeartbeats 400000 in
theorem bytes_yes (a : Option Addr) (n c : Nat) (x1 x2 x3 x4 : Int) (w : World) (h : n ≤ 1048576) :
    Calls Try.prog 6 #[.slice a n c, .int .i64 x1, .int .i64 x2, .int .i64 x3, .int .i64 x4] w fun e w' => e = .returned (.bool true) ∧ w' = w := by
  have h' : ¬ (1048576 : Int) < (n : Int) := by omega
  go_enter Try.func6, Try.ntmps6
  go_wp2
  go_ret
  exact ⟨rfl, rfl⟩

set_option maxHeartbeats 400000 in
theorem bytes_no (a : Option Addr) (n c : Nat) (x1 x2 x3 x4 : Int) (w : World) (h : ¬ n ≤ 1048576) :
    Calls Try.prog 6 #[.slice a n c, .int .i64 x1, .int .i64 x2, .int .i64 x3, .int .i64 x4] w fun e w' => e = .returned (.bool false) ∧ w' = w := by
  have h' : (1048576 : Int) < (n : Int) := by omega
  go_enter Try.func6, Try.ntmps6
  go_wp2
  go_ret
  exact ⟨rfl, rfl⟩

set_option maxHeartbeats 400000 in
theorem clone_nil (w : World) : Calls Try.prog 7 #[.slice none 0 0] w fun e w' => e = .returned (.slice none 0 0) ∧ w' = w := by
  have hnil := fun (w : World) (a : Option Addr) (n c : Nat) => Lib.run_eql_slice_nil (P := Try.prog) w 22 5 a n c 0 0 Try.underlying22
  go_enter Try.func7, Try.ntmps7
  go_wp2
  go_ret
  exact ⟨rfl, rfl⟩

set_option maxHeartbeats 400000 in
theorem clone_some (x : Addr) (n c : Nat) (zs : List Int) (w : World) (hz : zs.length = n) (hn : n ≤ 1048576) (hc : Lies w (some x) zs) :
    Calls Try.prog 7 #[.slice (some x) n c] w fun e w' => e = .returned (.slice (some ⟨w.heap.size, 0, none⟩) n n) ∧ w' = w.alloc (.cells (zs.map (Value.int .u8)).toArray 5) := by
  have hnil := fun (w : World) (a : Option Addr) (n c : Nat) => Lib.run_eql_slice_nil (P := Try.prog) w 22 5 a n c 0 0 Try.underlying22
  have hmk := run_make_row' (P := Try.prog) 22 5 (.int .u8 0) 1 Try.underlying22 Try.info5 rfl .i64 .i64 n (by omega) (by omega)
  have hcp := run_copy_row (P := Try.prog) (w.alloc (.cells (madeCells #[.int .u8 0] n) 5)) 22 22 3 5 w.heap.size 0 n n x n c (madeCells #[.int .u8 0] n) 5 (zs.map (Value.int .u8)) Try.underlying22 Try.size5
    (alloc_at _ _) (by simp [hz]) (bytes_src _ hc) (by simp [hz, size_madeCells]) (ints_oneCell _ _)
  rw [setRow_alloc] at hcp
  have hd : (madeCells #[Value.int .u8 0] n).toList.drop (0 + (zs.map (Value.int .u8)).length) = [] := by simp [hz, size_madeCells]
  rw [hd, List.take_zero, List.nil_append, List.append_nil] at hcp
  go_enter Try.func7, Try.ntmps7
  go_wp2
  go_ret
  exact ⟨rfl, rfl⟩

/-- By how much growPayload grows. -/
def growOf (start arrived rest : Int) : Int := min (max rest start) (max 65536 (start + arrived))

set_option maxRecDepth 100000 in
set_option maxHeartbeats 400000 in
theorem grow_some (x : Addr) (n c : Nat) (zs : List Int) (s r t : Int) (w : World) (hz : zs.length = n) (hn : n ≤ 1048576) (hc : Lies w (some x) zs) (s0 : 0 ≤ s) (s1 : s ≤ 65536) (r0 : 0 ≤ r) (r1 : r ≤ 65536) (t0 : 0 ≤ t) (t1 : t ≤ 9223372036854775807) :
    Calls Try.prog 15 #[.slice (some x) n c, .int .i64 s, .int .i64 r, .int .i64 t] w fun e w' => ∃ g : Nat, (g : Int) = growOf s r t ∧ e = .returned (.slice (some ⟨w.heap.size, 0, none⟩) n (n + g)) ∧ w' = w.alloc (.cells ((zs.map (Value.int .u8)) ++ List.replicate g (Value.int .u8 0)).toArray 5) := by
  obtain ⟨A, hA⟩ : ∃ A : Int, A = max t s := ⟨_, rfl⟩
  obtain ⟨B, hB⟩ : ∃ B : Int, B = max 65536 (s + r) := ⟨_, rfl⟩
  have hg0 : growOf s r t = min A B := by rw [hA, hB]; rfl
  obtain ⟨g, hg⟩ : ∃ g : Nat, (g : Int) = growOf s r t := ⟨(growOf s r t).toNat, by rw [hg0]; omega⟩
  have g1 : (g : Int) ≤ 131072 := by rw [hg, hg0]; omega
  have hmax1 : ∀ (ts : Array TypeId) (ty : TypeId) (W : World), (Builtin.max_ ts ty #[.int .i64 t, .int .i64 s]).run Try.prog W = .ok (.int .i64 A) W := fun ts ty W => by
    rw [run_max_int2]; congr 2; rw [hA]; split <;> omega
  have hmax2 : ∀ (ts : Array TypeId) (ty : TypeId) (W : World), (Builtin.max_ ts ty #[.int .i64 65536, .int .i64 (s + r)]).run Try.prog W = .ok (.int .i64 B) W := fun ts ty W => by
    rw [run_max_int2]; congr 2; rw [hB]; split <;> omega
  have hmin3 : ∀ (ts : Array TypeId) (ty : TypeId) (W : World), (Builtin.min_ ts ty #[.int .i64 A, .int .i64 B, .int .i64 (9223372036854775807 - (n : Int))]).run Try.prog W = .ok (.int .i64 (g : Int)) W := fun ts ty W => by
    rw [run_min_int3]; congr 2; rw [hg, hg0]; split <;> split <;> omega
  have HG : Hid ((g : Int) = growOf s r t) := hg
  clear hg hA hB hg0
  have hmk : ∀ W : World, (Instr.makeSlice 22 (.int .i64 (n : Int)) (.int .i64 ((n : Int) + (g : Int)))).run Try.prog W = .ok (.slice (some ⟨W.heap.size, 0, none⟩) n (n + g)) (W.alloc (.cells (madeCells #[.int .u8 0] (n + g)) 5)) := fun W => by
    obtain ⟨i, hi, hz0, hz1, hz2⟩ := info_parts Try.info5
    have h := run_make (P := Try.prog) W 22 5 i (.int .u8 0) Try.underlying22 hi hz0 .i64 .i64 n (n + g) (by omega) (by omega) (by rw [hz2]; omega) (by omega)
    rw [h, hz1, show ((n : Int) + (g : Int)).toNat = n + g from by omega, Int.toNat_natCast, Nat.mul_one]; rfl
  have hcp := run_copy_row (P := Try.prog) (w.alloc (.cells (madeCells #[.int .u8 0] (n + g)) 5)) 22 22 3 5 w.heap.size 0 n (n + g) x n c (madeCells #[.int .u8 0] (n + g)) 5 (zs.map (Value.int .u8)) Try.underlying22 Try.size5
    (alloc_at _ _) (by simp [hz]) (bytes_src _ hc) (by simp [hz, size_madeCells]) (ints_oneCell _ _)
  rw [setRow_alloc] at hcp
  have hd : (madeCells #[Value.int .u8 0] (n + g)).toList.drop (0 + (zs.map (Value.int .u8)).length) = List.replicate g (.int .u8 0) := by
    rw [toList_madeCells_one]; simp [hz]
  rw [hd, List.take_zero, List.nil_append] at hcp
  go_enter Try.func15, Try.ntmps15
  go_wp2
  go_ret
  exact ⟨g, HG, rfl, rfl⟩

set_option maxRecDepth 100000 in
set_option maxHeartbeats 400000 in
theorem grow_nil (s r t : Int) (w : World) (s0 : 0 ≤ s) (s1 : s ≤ 65536) (r0 : 0 ≤ r) (r1 : r ≤ 65536) (t0 : 0 ≤ t) (t1 : t ≤ 9223372036854775807) :
    Calls Try.prog 15 #[.slice none 0 0, .int .i64 s, .int .i64 r, .int .i64 t] w fun e w' => ∃ g : Nat, (g : Int) = growOf s r t ∧ e = .returned (.slice (some ⟨w.heap.size, 0, none⟩) 0 (0 + g)) ∧ w' = w.alloc (.cells (List.replicate g (Value.int .u8 0)).toArray 5) := by
  obtain ⟨A, hA⟩ : ∃ A : Int, A = max t s := ⟨_, rfl⟩
  obtain ⟨B, hB⟩ : ∃ B : Int, B = max 65536 (s + r) := ⟨_, rfl⟩
  have hg0 : growOf s r t = min A B := by rw [hA, hB]; rfl
  obtain ⟨g, hg⟩ : ∃ g : Nat, (g : Int) = growOf s r t := ⟨(growOf s r t).toNat, by rw [hg0]; omega⟩
  have g1 : (g : Int) ≤ 131072 := by rw [hg, hg0]; omega
  have hmax1 : ∀ (ts : Array TypeId) (ty : TypeId) (W : World), (Builtin.max_ ts ty #[.int .i64 t, .int .i64 s]).run Try.prog W = .ok (.int .i64 A) W := fun ts ty W => by
    rw [run_max_int2]; congr 2; rw [hA]; split <;> omega
  have hmax2 : ∀ (ts : Array TypeId) (ty : TypeId) (W : World), (Builtin.max_ ts ty #[.int .i64 65536, .int .i64 (s + r)]).run Try.prog W = .ok (.int .i64 B) W := fun ts ty W => by
    rw [run_max_int2]; congr 2; rw [hB]; split <;> omega
  have hmin3 : ∀ (ts : Array TypeId) (ty : TypeId) (W : World), (Builtin.min_ ts ty #[.int .i64 A, .int .i64 B, .int .i64 9223372036854775807]).run Try.prog W = .ok (.int .i64 (g : Int)) W := fun ts ty W => by
    rw [run_min_int3]; congr 2; rw [hg, hg0]; split <;> split <;> omega
  have HG : Hid ((g : Int) = growOf s r t) := hg
  clear hg hA hB hg0
  have hmk : ∀ W : World, (Instr.makeSlice 22 (.int .i64 0) (.int .i64 (g : Int))).run Try.prog W = .ok (.slice (some ⟨W.heap.size, 0, none⟩) 0 g) (W.alloc (.cells (List.replicate g (Value.int .u8 0)).toArray 5)) := fun W => by
    obtain ⟨i, hi, hz0, hz1, hz2⟩ := info_parts Try.info5
    have h := run_make (P := Try.prog) W 22 5 i (.int .u8 0) Try.underlying22 hi hz0 .i64 .i64 0 g (by omega) (by omega) (by rw [hz2]; omega) (by omega)
    have e : madeCells (Value.int .u8 0).cells g = (List.replicate g (Value.int .u8 0)).toArray := by
      rw [← toList_madeCells_one]; rfl
    rw [h, hz1, Int.toNat_natCast, Nat.mul_one, e]; rfl
  have hcp := fun W : World => run_copy_nil (P := Try.prog) W 22 22 3 5 ⟨w.heap.size, 0, none⟩ 0 g Try.underlying22 (by rw [Try.size5]; rfl)
  go_enter Try.func15, Try.ntmps15
  go_wp2
  go_ret
  exact ⟨g, HG, by rw [Nat.zero_add]; rfl, rfl⟩

/-- Two slices that read alike are equal. -/
theorem addr_of {w : World} {a : Option Addr} {zs : List Int} (h : Lies w a zs) (h0 : 0 < zs.length) : ∃ b off, a = some ⟨b, off, none⟩ ∧ ∀ j, j < zs.length → w.cell? ⟨b, off + j, none⟩ = some (.int .u8 (zs.getD j 0)) := by
  obtain ⟨x, rfl, hx⟩ := h 0 h0
  obtain ⟨b, off, spot⟩ := x
  have hspot : spot = none := by simpa [Addr.add] using World.cell?_spot hx
  subst hspot
  refine ⟨b, off, rfl, fun j hj => ?_⟩
  obtain ⟨y, hy, hc⟩ := h j hj
  obtain rfl := Option.some.inj hy
  rw [← Addr.add_lit]; exact hc

set_option maxHeartbeats 400000 in
theorem equal_none (a1 a2 : Option Addr) (c1 c2 : Nat) (w : World) :
    Calls Try.prog 9 #[.slice a1 0 c1, .slice a2 0 c2] w fun e w' => e = .returned (.bool true) ∧ w' = w := by
  go_enter Try.func9, Try.ntmps9
  go_wp2
  go_loop [5] (fun i => i = .int .i64 0) (fun _ => 0)
  case atStart => rfl
  case round =>
    obtain rfl := hrel
    go_wp2
    go_ret
    exact ⟨rfl, rfl⟩

set_option maxHeartbeats 400000 in
theorem equal_some (b1 o1 b2 o2 n c1 c2 : Nat) (zs : List Int) (w : World) (hn : n ≤ 1048576)
    (h1 : ∀ j, j < n → w.cell? ⟨b1, o1 + j, none⟩ = some (.int .u8 (zs.getD j 0))) (h2 : ∀ j, j < n → w.cell? ⟨b2, o2 + j, none⟩ = some (.int .u8 (zs.getD j 0))) :
    Calls Try.prog 9 #[.slice (some ⟨b1, o1, none⟩) n c1, .slice (some ⟨b2, o2, none⟩) n c2] w fun e w' => e = .returned (.bool true) ∧ ∃ k, w' = w.drewN k := by
  go_enter Try.func9, Try.ntmps9
  go_wp2
  go_loopw [5] (fun i wr => (∃ k : Nat, k ≤ n ∧ i = .int .i64 k) ∧ ∃ m, wr = w.drewN m) (fun i _ => n - (intOf i).toNat)
  case atStart => exact ⟨⟨0, Nat.zero_le _, rfl⟩, 0, rfl⟩
  case round =>
    obtain ⟨⟨k, hk, rfl⟩, m, rfl⟩ := hrel
    by_cases hlt : k < n
    · have g1 := h1 k hlt
      have g2 := h2 k hlt
      have hlt' : (k : Int) < (n : Int) := by omega
      go_wp2
      go_quiet (fail)
      go_wp2
      go_roundw
      case rel => exact ⟨⟨k + 1, by omega, by go_num⟩, _, rfl⟩
      case measure => simp [intOf]; omega
    · go_wp2
      go_ret
      exact ⟨rfl, m, rfl⟩

/-! ### THE CONTRACTS, ABSTRACT: a slice value is '.slice a n c' with 'a = none → n = 0 ∧ c = 0'; what it holds: 'Lies w a zs'. -/
theorem Lies.below {w w' : World} {a : Option Addr} {zs : List Int} (h : Lies w a zs) (hb : Below w.heap.size w w') : Lies w' a zs := fun j hj => by
  obtain ⟨x, hx, hc⟩ := h j hj
  exact ⟨x, hx, (hb.cell (World.block_lt_of_cell? _ _ hc)).trans hc⟩

theorem Lies.drewN {w : World} {a : Option Addr} {zs : List Int} (h : Lies w a zs) (k : Nat) : Lies (w.drewN k) a zs := h

theorem lies_alloc (w : World) (zs : List Int) (r : List Value) (t : TypeId) : Lies (w.alloc (.cells (zs.map (Value.int .u8) ++ r).toArray t)) (some ⟨w.heap.size, 0, none⟩) zs := fun j hj => by
  refine ⟨_, rfl, ?_⟩
  rw [Addr.add_lit, Nat.zero_add, World.cell?_alloc_new]
  simp [List.getElem?_append, hj, List.getD]

theorem clone_any (a : Option Addr) (n c : Nat) (zs : List Int) (w : World) (hz : zs.length = n) (hn : n ≤ 1048576) (ha : a = none → n = 0 ∧ c = 0) (hc : Lies w a zs) :
    Calls Try.prog 7 #[.slice a n c] w fun e w' => ∃ a' c', e = .returned (.slice a' n c') ∧ (a' = none → n = 0 ∧ c' = 0) ∧ Lies w' a' zs ∧ Below w.heap.size w w' := by
  cases a with
  | none =>
    obtain ⟨rfl, rfl⟩ := ha rfl
    refine (clone_nil w).mono ?_
    rintro e w' ⟨rfl, rfl⟩
    exact ⟨none, 0, rfl, fun _ => ⟨rfl, rfl⟩, hc, Below.refl _ _⟩
  | some x =>
    refine (clone_some x n c zs w hz hn hc).mono ?_
    rintro e w' ⟨rfl, rfl⟩
    refine ⟨_, _, rfl, (fun h => by cases h), ?_, (Below.refl _ _).alloc (Nat.le_refl _) _⟩
    simpa using lies_alloc w zs [] 5

theorem grow_any (a : Option Addr) (n c : Nat) (zs : List Int) (s r t : Int) (w : World) (hz : zs.length = n) (hn : n ≤ 1048576) (ha : a = none → n = 0 ∧ c = 0) (hc : Lies w a zs) (s0 : 0 ≤ s) (s1 : s ≤ 65536) (r0 : 0 ≤ r) (r1 : r ≤ 65536) (t0 : 0 ≤ t) (t1 : t ≤ 9223372036854775807) :
    Calls Try.prog 15 #[.slice a n c, .int .i64 s, .int .i64 r, .int .i64 t] w fun e w' => ∃ a' g, e = .returned (.slice a' n (n + g)) ∧ Hid ((g : Int) = growOf s r t) ∧ Lies w' a' zs ∧ Below w.heap.size w w' := by
  cases a with
  | none =>
    obtain ⟨rfl, rfl⟩ := ha rfl
    refine (grow_nil s r t w s0 s1 r0 r1 t0 t1).mono ?_
    rintro e w' ⟨g, hg, rfl, rfl⟩
    obtain rfl := List.eq_nil_of_length_eq_zero hz
    exact ⟨_, g, rfl, hg, fun j hj => by simp at hj, (Below.refl _ _).alloc (Nat.le_refl _) _⟩
  | some x =>
    refine (grow_some x n c zs s r t w hz hn hc s0 s1 r0 r1 t0 t1).mono ?_
    rintro e w' ⟨g, hg, rfl, rfl⟩
    exact ⟨_, g, rfl, hg, lies_alloc w zs _ 5, (Below.refl _ _).alloc (Nat.le_refl _) _⟩

theorem equal_any (a1 a2 : Option Addr) (n c1 c2 : Nat) (zs : List Int) (w : World) (hz : zs.length = n) (hn : n ≤ 1048576) (h1 : Lies w a1 zs) (h2 : Lies w a2 zs) :
    Calls Try.prog 9 #[.slice a1 n c1, .slice a2 n c2] w fun e w' => e = .returned (.bool true) ∧ ∃ k, w' = w.drewN k := by
  by_cases h0 : n = 0
  · subst h0
    refine (equal_none a1 a2 c1 c2 w).mono ?_
    rintro e w' ⟨rfl, rfl⟩
    exact ⟨rfl, 0, rfl⟩
  · obtain ⟨b1, o1, rfl, g1⟩ := addr_of h1 (by omega)
    obtain ⟨b2, o2, rfl, g2⟩ := addr_of h2 (by omega)
    exact equal_some b1 o1 b2 o2 n c1 c2 zs w hn (fun j hj => g1 j (by omega)) (fun j hj => g2 j (by omega))
end Go.Proofs.Qxb6608669a
