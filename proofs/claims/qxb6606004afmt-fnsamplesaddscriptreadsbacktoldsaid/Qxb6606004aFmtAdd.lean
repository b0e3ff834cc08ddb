/-
  Seat b6606004aF: Samples: new, Add. By an AI agent.
-/
import Derived.Test.Qxb6606004aFmtSame
import Derived.Maps.AppendAt
import Derived.Deep.AppendLies
import Derived.Handy
namespace Go.Proofs.Qxb6606004aFmt
open Go.RowKit

theorem lt_heap {w : World} {g : Nat} {o : Obj} (h : w.heap[g]? = some o) : g < w.heap.size := by
  obtain ⟨h1, _⟩ := Array.getElem?_eq_some_iff.1 h
  exact h1

def rl (f : Nat → Value) (n : Nat) : List Value := (List.range n).map f
theorem rl_succ (f : Nat → Value) (n : Nat) : rl f n ++ [f n] = rl f (n + 1) := by unfold rl; rw [List.range_succ, List.map_append]; rfl
theorem rl_get (f : Nat → Value) (n j : Nat) (h : j < n) : (rl f n)[j]? = some (f j) := by simp [rl, h]
theorem rl_length (f : Nat → Value) (n : Nat) : (rl f n).length = n := by simp [rl]

theorem grown_setCell (w : World) (a : Addr) (u : Value) : w.grownBy (w.setCell a u) (some a.block) :=
  ⟨rfl, rfl, rfl, by simp, fun k _ hk => heap_setCell_other w a k u (fun e => hk (by rw [e]))⟩

/-- A row that another block's turn leaves alone. -/
theorem owns_grown {w w' : World} {B e n : Nat} {r : Option Nat} {v : Value} {xs : List Value} (h : w.ownsRow B e 1 v n xs) (hg : w.grownBy w' r) (hr : ∀ g, v.ownBlock = some g → r ≠ some g) : w'.ownsRow B e 1 v n xs := by
  refine ⟨h.1, ?_⟩
  rcases h.2 with h' | ⟨g, cap, cur, h1, h2, h3, h4⟩
  · exact .inl h'
  · refine .inr ⟨g, cap, cur, h1, h2, ?_, h4⟩
    rw [hg.block g (lt_heap h3) (fun e' => hr g (by rw [h1]; rfl) e'.symm)]
    exact h3

/-- The block that a row's value leads to holds elements of the row's type. -/
theorem owns_type {w : World} {B e n : Nat} {v : Value} {xs : List Value} (h : w.ownsRow B e 1 v n xs) (g : Nat) (hg : v.ownBlock = some g) : ∃ cur, w.heap[g]? = some (.cells cur e (0, 0)) ∧ B ≤ g := by
  rcases h.2 with ⟨rfl, _⟩ | ⟨g', cap, cur, h1, h2, h3, h4⟩
  · cases hg
  · rw [h1] at hg
    obtain rfl : g' = g := by injection hg
    exact ⟨cur, h3, h2⟩

theorem owns_form {w : World} {B e n : Nat} {v : Value} {xs : List Value} (h : w.ownsRow B e 1 v n xs) : ∃ a c, v = .slice a n c ∧ (a = none → n = 0 ∧ c = 0) := by
  rcases h.2 with ⟨rfl, rfl⟩ | ⟨g', cap, cur, h1, h2, h3, h4⟩
  · exact ⟨_, _, rfl, fun _ => ⟨rfl, rfl⟩⟩
  · exact ⟨_, _, h1, fun h => by cases h⟩

theorem owns_lies {w : World} {B e n : Nat} {a : Option Addr} {c : Nat} {f : Nat → Value} (h : w.ownsRow B e 1 (.slice a n c) n (rl f n)) : VL w a n f := by
  intro j hj
  rcases h.2 with ⟨h1, h2⟩ | ⟨g', cap, cur, h1, h2, h3, h4⟩
  · omega
  · have h5 := h1
    injection h5 with e1
    subst e1
    refine ⟨_, rfl, ?_⟩
    exact h.cells (g := g') rfl j (f j) (rl_get f n j hj)

/-- A Samples: the block of her two slices, and the two rows. -/
structure St (w : World) (B b : Nat) (tv fv : Value) (k1 k2 : Nat) (t : Nat → Int) (f : Nat → Nat) : Prop where
  blk : w.heap[b]? = some (.cells #[tv, fv] 55 (0, 0))
  ge : B ≤ b
  ot : w.ownsRow B 52 1 tv k1 (rl (fun j => .int .i64 (t j)) k1)
  of : w.ownsRow B 43 1 fv k2 (rl (fun j => .float .f64 (f j)) k2)

theorem St.c0 {w : World} {B b k1 k2 : Nat} {tv fv : Value} {t : Nat → Int} {f : Nat → Nat} (h : St w B b tv fv k1 k2 t f) : w.cell? ⟨b, 0, none⟩ = some tv := by rw [cell_of_block h.blk]; rfl
theorem St.c1 {w : World} {B b k1 k2 : Nat} {tv fv : Value} {t : Nat → Int} {f : Nat → Nat} (h : St w B b tv fv k1 k2 t f) : w.cell? ⟨b, 1, none⟩ = some fv := by rw [cell_of_block h.blk]; rfl

theorem St.tb {w : World} {B b k1 k2 : Nat} {tv fv : Value} {t : Nat → Int} {f : Nat → Nat} (h : St w B b tv fv k1 k2 t f) : tv.ownBlock ≠ some b := fun e => by
  obtain ⟨cur, h1, _⟩ := owns_type h.ot b e
  rw [h.blk] at h1
  simp at h1
theorem St.fb {w : World} {B b k1 k2 : Nat} {tv fv : Value} {t : Nat → Int} {f : Nat → Nat} (h : St w B b tv fv k1 k2 t f) : fv.ownBlock ≠ some b := fun e => by
  obtain ⟨cur, h1, _⟩ := owns_type h.of b e
  rw [h.blk] at h1
  simp at h1
theorem St.tf {w : World} {B b k1 k2 : Nat} {tv fv : Value} {t : Nat → Int} {f : Nat → Nat} (h : St w B b tv fv k1 k2 t f) (g : Nat) (h1 : tv.ownBlock = some g) (h2 : fv.ownBlock = some g) : False := by
  obtain ⟨cur, h3, _⟩ := owns_type h.ot g h1
  obtain ⟨cur', h4, _⟩ := owns_type h.of g h2
  rw [h3] at h4
  simp at h4

theorem below_grown {w w' : World} {B : Nat} {r : Option Nat} (hg : w.grownBy w' r) (hB : B ≤ w.heap.size) (hr : ∀ k, r = some k → B ≤ k) : Below B w w' :=
  ⟨hg.os, hg.tape, hg.output, hg.size, fun k hk => hg.block k (by omega) (fun e => by have := hr k e.symm; omega)⟩

/-- An append to the times, and the store behind it. -/
theorem St.app_t {w : World} {B b k1 k2 : Nat} {tv fv : Value} {t : Nat → Int} {f : Nat → Nat} (h : St w B b tv fv k1 k2 t f) (hk : k1 ≤ 1048576) :
    ∃ a' c' w2, (Builtin.append_ #[47, 47] 47 #[tv, .slice (some ⟨w.heap.size, 0, none⟩) 1 1]).run Tryf.prog (w.alloc (.cells #[.int .i64 (t k1)] 52)) = .ok (.slice a' (k1 + 1) c') w2 ∧
      w2.cell? ⟨b, 0, none⟩ = some tv ∧ w2.cell? ⟨b, 1, none⟩ = some fv ∧ w2.frozen? ⟨b, 0, none⟩ = false ∧ St (w2.setCell ⟨b, 0, none⟩ (.slice a' (k1 + 1) c')) B b (.slice a' (k1 + 1) c') fv (k1 + 1) k2 t f ∧ Below B w (w2.setCell ⟨b, 0, none⟩ (.slice a' (k1 + 1) c')) := by
  obtain ⟨i, hi, hzz⟩ := Option.map_eq_some_iff.1 Tryf.info52
  simp only [Prod.mk.injEq] at hzz
  obtain ⟨hz, hs, hb⟩ := hzz
  have hlt := lt_heap h.blk
  have hB : B ≤ w.heap.size := by have := h.ge; omega
  obtain ⟨v', w2, h1, h2, h3, _, h5⟩ := run_append_own_at (P := Tryf.prog) (w.alloc (.cells #[.int .i64 (t k1)] 52)) B 47 47 52 i (.int .i64 0) 1 8 Tryf.underlying47 hi hz hs hb rfl (by omega) tv k1 _ (h.ot.alloc _)
    ⟨w.heap.size, 0, none⟩ 1 1 [.int .i64 (t k1)] rfl (cell_one_new _ _ _) (by intro u hu; simp at hu; subst hu; rfl) (by unfold maxLen; omega) (by omega) (by simp; omega)
  obtain ⟨a', c', rfl, _⟩ := owns_form h2
  have hg : w.grownBy w2 tv.ownBlock := (World.grownBy_alloc w _ _).trans h3
  have hblk : w2.heap[b]? = some (.cells #[tv, fv] 55 (0, 0)) := by
    rw [hg.block b hlt (fun e => h.tb e.symm)]
    exact h.blk
  have h2' : w2.ownsRow B 52 1 (.slice a' (k1 + 1) c') (k1 + 1) (rl (fun j => .int .i64 (t j)) (k1 + 1)) := by rw [← rl_succ]; exact h2
  have ho' : w2.ownsRow B 43 1 fv k2 (rl (fun j => .float .f64 (f j)) k2) := owns_grown h.of hg (fun g e1 e2 => h.tf g e2 e1)
  have hne1 : ∀ g, (Value.slice a' (k1 + 1) c').ownBlock = some g → some b ≠ some g := fun g e1 e2 => by
    obtain ⟨cur, h6, _⟩ := owns_type h2' g e1
    injection e2 with e2
    subst e2
    rw [hblk] at h6
    simp at h6
  have hne2 : ∀ g, fv.ownBlock = some g → some b ≠ some g := fun g e1 e2 => by
    injection e2 with e2
    subst e2
    exact h.fb e1
  refine ⟨a', c', w2, h1, by rw [cell_of_block hblk]; rfl, by rw [cell_of_block hblk]; rfl, frozen_of_block hblk 0, ⟨?_, h.ge, owns_grown h2' (grown_setCell w2 ⟨b, 0, none⟩ _) hne1, owns_grown ho' (grown_setCell w2 ⟨b, 0, none⟩ _) hne2⟩, ?_⟩
  · rw [heap_setCell_same _ _ 0 _ _ _ hblk]
    rfl
  · refine (below_grown hg hB (fun k hk => ?_)).trans (below_grown (grown_setCell w2 ⟨b, 0, none⟩ _) (Nat.le_trans hB hg.size) (fun k hk => ?_))
    · obtain ⟨_, _, h7⟩ := owns_type h.ot k hk
      exact h7
    · injection hk with hk
      have := h.ge
      simp at hk
      omega
/-- An append to the values, and the store behind it. -/
theorem St.app_f {w : World} {B b k1 k2 : Nat} {tv fv : Value} {t : Nat → Int} {f : Nat → Nat} (h : St w B b tv fv k1 k2 t f) (hk : k2 ≤ 1048576) :
    ∃ a' c' w2, (Builtin.append_ #[37, 37] 37 #[fv, .slice (some ⟨w.heap.size, 0, none⟩) 1 1]).run Tryf.prog (w.alloc (.cells #[.float .f64 (f k2)] 43)) = .ok (.slice a' (k2 + 1) c') w2 ∧
      w2.cell? ⟨b, 1, none⟩ = some fv ∧ w2.frozen? ⟨b, 1, none⟩ = false ∧ St (w2.setCell ⟨b, 1, none⟩ (.slice a' (k2 + 1) c')) B b tv (.slice a' (k2 + 1) c') k1 (k2 + 1) t f ∧ Below B w (w2.setCell ⟨b, 1, none⟩ (.slice a' (k2 + 1) c')) := by
  obtain ⟨i, hi, hzz⟩ := Option.map_eq_some_iff.1 Tryf.info43
  simp only [Prod.mk.injEq] at hzz
  obtain ⟨hz, hs, hb⟩ := hzz
  have hlt := lt_heap h.blk
  have hB : B ≤ w.heap.size := by have := h.ge; omega
  obtain ⟨v', w2, h1, h2, h3, _, h5⟩ := run_append_own_at (P := Tryf.prog) (w.alloc (.cells #[.float .f64 (f k2)] 43)) B 37 37 43 i (.float .f64 0) 1 8 Tryf.underlying37 hi hz hs hb rfl (by omega) fv k2 _ (h.of.alloc _)
    ⟨w.heap.size, 0, none⟩ 1 1 [.float .f64 (f k2)] rfl (cell_one_new _ _ _) (by intro u hu; simp at hu; subst hu; rfl) (by unfold maxLen; omega) (by omega) (by simp; omega)
  obtain ⟨a', c', rfl, _⟩ := owns_form h2
  have hg : w.grownBy w2 fv.ownBlock := (World.grownBy_alloc w _ _).trans h3
  have hblk : w2.heap[b]? = some (.cells #[tv, fv] 55 (0, 0)) := by
    rw [hg.block b hlt (fun e => h.fb e.symm)]
    exact h.blk
  have h2' : w2.ownsRow B 43 1 (.slice a' (k2 + 1) c') (k2 + 1) (rl (fun j => .float .f64 (f j)) (k2 + 1)) := by rw [← rl_succ]; exact h2
  have ho' : w2.ownsRow B 52 1 tv k1 (rl (fun j => .int .i64 (t j)) k1) := owns_grown h.ot hg (fun g e1 e2 => h.tf g e1 e2)
  have hne1 : ∀ g, (Value.slice a' (k2 + 1) c').ownBlock = some g → some b ≠ some g := fun g e1 e2 => by
    obtain ⟨cur, h6, _⟩ := owns_type h2' g e1
    injection e2 with e2
    subst e2
    rw [hblk] at h6
    simp at h6
  have hne2 : ∀ g, tv.ownBlock = some g → some b ≠ some g := fun g e1 e2 => by
    injection e2 with e2
    subst e2
    exact h.tb e1
  refine ⟨a', c', w2, h1, by rw [cell_of_block hblk]; rfl, frozen_of_block hblk 1, ⟨?_, h.ge, owns_grown ho' (grown_setCell w2 ⟨b, 1, none⟩ _) hne2, owns_grown h2' (grown_setCell w2 ⟨b, 1, none⟩ _) hne1⟩, ?_⟩
  · rw [heap_setCell_same _ _ 1 _ _ _ hblk]
    rfl
  · refine (below_grown hg hB (fun k hk => ?_)).trans (below_grown (grown_setCell w2 ⟨b, 1, none⟩ _) (Nat.le_trans hB hg.size) (fun k hk => ?_))
    · obtain ⟨_, _, h7⟩ := owns_type h.of k hk
      exact h7
    · injection hk with hk
      have := h.ge
      simp at hk
      omega
/-- An append whose run is known. -/
theorem wp_app {P : Program} {W w' : World} {v' : Value} {o : Oper} {a : Act} {K : Act → World → Prop} {Q : Exit → Act → World → Prop} (s x : Operand) (t u : TypeId)
    (ho : o.op = .call { callee := .builtin .append, args := #[s, x], argTypes := #[t, u] }) (sv xv : Value) (hs : a.eval s = sv) (hx : a.eval x = xv)
    (hr : (Builtin.append_ #[t, u] o.type #[sv, xv]).run P W = .ok v' w') (h : K (a.put o.dst v') w') : o.wp P a W K Q := by
  unfold Oper.wp execOp
  simp only [ho, resolve, invoke, builtin, Sem.run_bind, Sem.run_pure, Result.andThen_ok, List.map_toArray, List.map_cons, List.map_nil, hs, hx, hr]
  exact h

theorem wpList_app {P : Program} {W w' : World} {v' : Value} {ops : Array Oper} {rest : List Oper} {o : Oper} {a : Act} {Q : Exit → Act → World → Prop} (hgd : o.guard = none) (s x : Operand) (t u : TypeId)
    (ho : o.op = .call { callee := .builtin .append, args := #[s, x], argTypes := #[t, u] }) (sv xv : Value) (hs : a.eval s = sv) (hx : a.eval x = xv)
    (hr : (Builtin.append_ #[t, u] o.type #[sv, xv]).run P W = .ok v' w') (h : wpList P ops Q rest (a.put o.dst v') w') : wpList P ops Q (o :: rest) a W :=
  wpList_plain hgd fun _ hK => wp_app s x t u ho sv xv hs hx hr (hK _ _ h)


theorem new20 (w : World) : Calls Tryf.prog 20 #[.slice none 0 0, .slice none 0 0] w fun e w' => ∃ b, e = .returned (.pointer (some ⟨b, 0, none⟩)) ∧ Hid (St w' w.heap.size b (.slice none 0 0) (.slice none 0 0) 0 0 (fun _ => 0) (fun _ => 0) ∧ Below w.heap.size w w') := by
  go_enter Tryf.func20, Tryf.ntmps20
  go_wp2_with fail
  refine (nil25 w).mono ?_
  rintro e w' ⟨rfl, hw⟩
  rw [hw]; clear hw w'
  go_wp2
  go_ret
  refine ⟨w.heap.size, rfl, ⟨alloc_at _ _, Nat.le_refl _, World.ownsRow_nil _ _ _ _, World.ownsRow_nil _ _ _ _⟩, (Below.refl _ _).alloc (Nat.le_refl _) _⟩

set_option maxRecDepth 100000 in
set_option maxHeartbeats 400000 in
theorem add28 (B b k : Nat) (tv fv : Value) (t : Nat → Int) (f : Nat → Nat) (w : World) (h : St w B b tv fv k k t f) (hk : k ≤ 1048575) (hup : ∀ j, j + 1 = k → t j ≤ t k) :
    Calls Tryf.prog 28 #[.pointer (some ⟨b, 0, none⟩), .int .i64 (t k), .float .f64 (f k)] w fun e w' => e = .returned (.tuple #[]) ∧ ∃ tv' fv', Hid (St w' B b tv' fv' (k + 1) (k + 1) t f ∧ Below B w w') := by
  obtain ⟨a1, c1, rfl, ha1⟩ := owns_form h.ot
  obtain ⟨a2, c2, rfl, -⟩ := owns_form h.of
  have c0 := h.c0
  have hV := owns_lies h.ot
  obtain ⟨a', c', w2, h1, cc, cd, ff, hS, hb⟩ := h.app_t (by omega)
  obtain ⟨a'', c'', w4, h4, cc4, ff4, hS4, hb4⟩ := hS.app_f (by omega)
  rw [show (w2.setCell ⟨b, 0, none⟩ (.slice a' (k + 1) c')).heap.size = w2.heap.size by simp] at h4
  have HAP := hid h1
  have HAQ := hid h4
  have HS := hid (And.intro hS4 (hb.trans hb4))
  clear h h1 h4 hS hb hS4 hb4 ha1
  by_cases h0 : k = 0
  · have hg : decide ((0 : Int) < (k : Int)) = false := decide_eq_false (by omega)
    have hg2 : ¬ 0 < k := by omega
    have HK := hid (And.intro h0 (And.intro hk (And.intro hup hV)))
    clear h0 hk hup hV
    generalize t k = tk at *
    generalize f k = fk at *
    go_enter Tryf.func28, Tryf.ntmps28
    go_wp2_with (first
      | (at_builtin; refine wpList_app rfl (.tmp 44) (.tmp 46) 47 47 rfl _ _ rfl rfl HAP.out ?_)
      | (at_builtin; refine wpList_app rfl (.tmp 54) (.tmp 56) 37 37 rfl _ _ rfl rfl HAQ.out ?_))
    go_end0
    exact ⟨rfl, _, _, HS⟩
  · obtain ⟨q, hq⟩ : ∃ q, k = q + 1 := ⟨k - 1, by omega⟩
    have hg : (0 : Int) < (k : Int) := by omega
    have hg2 : 0 < k := by omega
    have hs : (k : Int) - 1 = (q : Int) := by omega
    have hw : wrap64 (q : Int) = (q : Int) := by unfold wrap64; omega
    have hql : (q : Int) < (k : Int) := by omega
    have hle : ¬ t k < t q := by have := hup q (by omega); omega
    obtain ⟨g, o, rfl, gx⟩ := addr_of hV (by omega)
    have gq := gx q (by omega)
    have HK := hid (And.intro hq (And.intro hk hup))
    clear h0 hk hup hq hV gx
    generalize t k = tk at *
    generalize f k = fk at *
    generalize t q = tq at *
    go_enter Tryf.func28, Tryf.ntmps28
    go_wp2_with (first
      | (at_builtin; refine wpList_app rfl (.tmp 44) (.tmp 46) 47 47 rfl _ _ rfl rfl HAP.out ?_)
      | (at_builtin; refine wpList_app rfl (.tmp 54) (.tmp 56) 37 37 rfl _ _ rfl rfl HAQ.out ?_))
    go_end0
    exact ⟨rfl, _, _, HS⟩

theorem add21 (B b k : Nat) (tv fv : Value) (t : Nat → Int) (f : Nat → Nat) (w : World) (h : St w B b tv fv k k t f) (hk : k ≤ 1048575) (hup : ∀ j, j + 1 = k → t j ≤ t k) :
    Calls Tryf.prog 21 #[.pointer (some ⟨b, 0, none⟩), .int .i64 (t k), .float .f64 (f k)] w fun e w' => e = .returned (.tuple #[]) ∧ ∃ tv' fv', Hid (St w' B b tv' fv' (k + 1) (k + 1) t f ∧ Below B w w') := by
  have HC := add28 B b k tv fv t f w h hk hup
  clear h hk hup
  generalize t k = tk at *
  generalize f k = fk at *
  go_enter Tryf.func21, Tryf.ntmps21
  go_wp2_with fail
  refine HC.mono ?_
  rintro e w' ⟨rfl, tv', fv', H⟩
  clear HC
  go_wp2
  go_end0
  exact ⟨rfl, _, _, H⟩
end Go.Proofs.Qxb6606004aFmt
