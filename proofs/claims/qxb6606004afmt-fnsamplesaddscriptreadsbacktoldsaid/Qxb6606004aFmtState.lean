/-
  Seat b6606004aF: ZZSamplesState. By an AI agent.
-/
import Derived.Test.Qxb6606004aFmtAdd
import Derived.Laws.CopyRow
namespace Go.Proofs.Qxb6606004aFmt
open Go.RowKit

theorem Tryf.size43 : (Tryf.prog.info? 43).map (·.size) = some 1 := by kernel_rfl

/-- A block just laid, its row laid anew: as if it had been laid so. -/
theorem setRow_alloc (w : World) (c d : Array Value) (t : TypeId) : (w.alloc (.cells c t)).setRow w.heap.size d = w.alloc (.cells d t) := by
  unfold World.setRow World.alloc
  congr 1
  apply Array.ext
  · simp
  · intro k h1 h2
    simp only [Array.getElem_modify, Array.getElem_push]
    by_cases hk : k < w.heap.size
    · simp [hk, Nat.ne_of_gt hk]
    · have : w.heap.size = k := by simp at h2; omega
      subst this; simp

/-- What ZZSamplesState hands back. -/
def Both (e : Ending) (w w' : World) (n : Nat) (t : Nat → Int) (f : Nat → Nat) : Prop :=
  ∃ a1 c1 a2 c2, e = .returned (.tuple #[.slice a1 n c1, .slice a2 n c2]) ∧ Hid (VL w' a1 n (fun j => .int .i64 (t j)) ∧ VL w' a2 n (fun j => .float .f64 (f j)) ∧ Below w.heap.size w w')

set_option maxHeartbeats 400000 in
theorem state_nil (B b : Nat) (tv : Value) (t : Nat → Int) (f : Nat → Nat) (w : World) (h : St w B b tv (.slice none 0 0) 0 0 t f) :
    Calls Tryf.prog 22 #[.pointer (some ⟨b, 0, none⟩)] w fun e w' => Both e w w' 0 t f := by
  obtain ⟨a1, c1, rfl, ha1⟩ := owns_form h.ot
  have hneq := fun (w : World) (a : Option Addr) (n c : Nat) => run_neq_slice_nil (P := Tryf.prog) w 37 43 a n c Tryf.underlying37
  have c0 := h.c0
  have d0 := h.c1
  have HC := clone27 a1 0 c1 t w (by omega) ha1 (owns_lies h.ot)
  clear h
  go_enter Tryf.func22, Tryf.ntmps22
  go_wp2_with fail
  refine HC.mono ?_
  rintro e w' ⟨a, c, rfl, H⟩
  clear HC
  go_wp2
  go_ret2
  exact ⟨a, c, none, 0, rfl, H.out.1, VL.zero _ _ _, H.out.2⟩

set_option maxRecDepth 100000 in
set_option maxHeartbeats 400000 in
theorem state_some (B b n g c2 : Nat) (tv : Value) (t : Nat → Int) (f : Nat → Nat) (w : World) (h : St w B b tv (.slice (some ⟨g, 0, none⟩) n c2) n n t f) (hn : n ≤ 1048576) :
    Calls Tryf.prog 22 #[.pointer (some ⟨b, 0, none⟩)] w fun e w' => Both e w w' n t f := by
  obtain ⟨a1, c1, rfl, ha1⟩ := owns_form h.ot
  have hneq := fun (w : World) (a : Option Addr) (n c : Nat) => run_neq_slice_nil (P := Tryf.prog) w 37 43 a n c Tryf.underlying37
  have hmk := run_make_row' (P := Tryf.prog) 37 43 (.float .f64 0) 8 Tryf.underlying37 Tryf.info43 rfl .i64 .i64 n (by omega) (by omega) w
  have hlt := lt_heap h.blk
  have hcp := run_copy_row (P := Tryf.prog) (w.alloc (.cells (madeCells #[.float .f64 0] n) 43)) 37 37 3 43 w.heap.size 0 n n ⟨g, 0, none⟩ n c2 (madeCells #[.float .f64 0] n) 43 (rl (fun j => .float .f64 (f j)) n) Tryf.underlying37 Tryf.size43
    (alloc_at _ _) (by rw [rl_length]; exact (Nat.min_self n).symm) (by
      intro j v hj
      have hc := h.of.cells (g := g) rfl j v hj
      rw [World.cell?_alloc_lt _ _ _ (World.block_lt_of_cell? _ _ hc), hc]) (by rw [rl_length, size_madeCells]; simp) (by
      intro v hv
      simp only [rl, List.mem_map] at hv
      obtain ⟨j, _, rfl⟩ := hv
      rfl)
  rw [rl_length, setRow_alloc] at hcp
  have hcells : ((madeCells #[.float .f64 0] n).toList.take 0 ++ rl (fun j => .float .f64 (f j)) n ++ (madeCells #[.float .f64 0] n).toList.drop (0 + n)) = rl (fun j => .float .f64 (f j)) n := by
    rw [List.take_zero, List.nil_append, List.drop_of_length_le (by simp [size_madeCells]), List.append_nil]
  rw [hcells] at hcp
  have c0 : (w.alloc (.cells (rl (fun j => .float .f64 (f j)) n).toArray 43)).cell? ⟨b, 0, none⟩ = some (.slice a1 n c1) := by rw [World.cell?_alloc_lt _ _ _ hlt]; exact h.c0
  have d0 := h.c1
  have d1 : (w.alloc (.cells (madeCells #[.float .f64 0] n) 43)).cell? ⟨b, 1, none⟩ = some (.slice (some ⟨g, 0, none⟩) n c2) := by rw [World.cell?_alloc_lt _ _ _ hlt]; exact h.c1
  have hB : Below w.heap.size w (w.alloc (.cells (rl (fun j => .float .f64 (f j)) n).toArray 43)) := (Below.refl _ _).alloc (Nat.le_refl _) _
  have hV2 : VL (w.alloc (.cells (rl (fun j => .float .f64 (f j)) n).toArray 43)) (some ⟨w.heap.size, 0, none⟩) n (fun j => .float .f64 (f j)) := fun j hj => by
    refine ⟨_, rfl, ?_⟩
    rw [Addr.add_lit, Nat.zero_add, World.cell?_alloc_new]
    simpa using rl_get (fun j => .float .f64 (f j)) n j hj
  have HC := clone27 a1 n c1 t _ hn ha1 ((owns_lies h.ot).below hB)
  have HB := hid (And.intro hB hV2)
  generalize w.alloc (.cells (rl (fun j => .float .f64 (f j)) n).toArray 43) = W2 at *
  generalize w.alloc (.cells (madeCells #[.float .f64 0] n) 43) = W1 at *
  clear h hB hV2 hcells hlt
  go_enter Tryf.func22, Tryf.ntmps22
  go_wp2_with fail
  refine HC.mono ?_
  rintro e w' ⟨a, c, rfl, H⟩
  clear HC
  go_wp2
  go_ret2
  exact ⟨a, c, some ⟨w.heap.size, 0, none⟩, n, rfl, H.out.1, HB.out.2.below H.out.2, Below.then HB.out.1 H.out.2⟩

theorem state22 (B b n : Nat) (tv fv : Value) (t : Nat → Int) (f : Nat → Nat) (w : World) (h : St w B b tv fv n n t f) (hn : n ≤ 1048576) :
    Calls Tryf.prog 22 #[.pointer (some ⟨b, 0, none⟩)] w fun e w' => Both e w w' n t f := by
  rcases h.of.2 with ⟨h1, h2⟩ | ⟨g, cap, cur, h1, h2, h3, h4⟩
  · subst h1
    subst h2
    exact state_nil B b tv t f w h
  · subst h1
    exact state_some B b n g cap tv t f w h hn
end Go.Proofs.Qxb6606004aFmt
