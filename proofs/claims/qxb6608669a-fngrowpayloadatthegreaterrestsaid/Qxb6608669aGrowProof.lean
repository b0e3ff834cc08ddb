/-
  The proof of 'Rows.FnGrowPayloadAtTheGreaterRestSaid'. The frame is the given shell's.
-/
import Derived.Test.Qxb6608669aRows
import Derived.Test.Qxb6608669aWalks
import Derived.WalkKit
import Derived.ProofKit
import Derived.OpenShut
import Derived.ShutString
import Derived.ChangeOld
import Derived.Below
namespace Go.Proofs.Qxb6608669a.fnGrowPayloadAtTheGreaterRest
open Go.ChangeShapes Go.WideShapes Go.ChangeAt Go.RowKit
open Go.ChangeMaps (open_string shut_string)
set_option linter.unusedVariables false

theorem own : ownKnob Try.prog.godebug = none := by kernel_rfl
theorem laidOut : laidOutB Try.prog = true := by kernel_rfl

/-- WHAT THE WALK IS TOLD OF A SLICE OF INTEGERS THAT CAME IN: it is nil; or it leads to a row of 'cap' cells, the numbers 'zs' (the first 'len' are its elements, the rest its spare room), each fitting its kind. -/
def IsRow (k : IntKind) (w : World) (a : Option Addr) (len cap : Nat) (zs : List Int) : Prop :=
  (a = none ∧ len = 0 ∧ cap = 0 ∧ zs = []) ∨
  ∃ x, a = some x ∧ len ≤ cap ∧ cap ≤ maxLen ∧ zs.length = cap ∧ (∀ i, i < zs.length → w.cell? (x.add i) = some (.int k (zs.getD i 0))) ∧ ∀ n ∈ zs, (Lit.int k n).wf = true

theorem row_lies {w : World} {a : Option Addr} {n c : Nat} {zs : List Int} (h : IsRow .u8 w a n c zs) : n ≤ maxLen ∧ (a = none → n = 0 ∧ c = 0) ∧ (zs.take n).length = n ∧ Lies w a (zs.take n) := by
  rcases h with ⟨rfl, rfl, rfl, rfl⟩ | ⟨x, rfl, h1, h2, h3, h4, _⟩
  · exact ⟨Nat.zero_le _, fun _ => ⟨rfl, rfl⟩, rfl, fun j hj => by simp at hj⟩
  · refine ⟨by omega, (fun h => by cases h), by simp; omega, fun j hj => ⟨x, rfl, ?_⟩⟩
    have hj' : j < n ∧ j < zs.length := by simp at hj; omega
    rw [h4 j hj'.2]
    simp [List.getD, hj'.1]

theorem min_any (x y : Int) (w : World) : Calls Try.prog 10 #[.int .i64 x, .int .i64 y] w fun e w' => e = .returned (.int .i64 (min x y)) ∧ w' = w := by
  by_cases h : x < y
  · have e : min x y = x := by omega
    rw [e]
    go_enter Try.func10, Try.ntmps10
    go_wp2
    go_ret
    exact ⟨rfl, rfl⟩
  · have e : min x y = y := by omega
    rw [e]
    go_enter Try.func10, Try.ntmps10
    go_wp2
    go_ret
    exact ⟨rfl, rfl⟩

theorem max_any (x y : Int) (w : World) : Calls Try.prog 11 #[.int .i64 x, .int .i64 y] w fun e w' => e = .returned (.int .i64 (max x y)) ∧ w' = w := by
  by_cases h : y < x
  · have e : max x y = x := by omega
    rw [e]
    go_enter Try.func11, Try.ntmps11
    go_wp2
    go_ret
    exact ⟨rfl, rfl⟩
  · have e : max x y = y := by omega
    rw [e]
    go_enter Try.func11, Try.ntmps11
    go_wp2
    go_ret
    exact ⟨rfl, rfl⟩

/-- The plain law of the three rooms. -/
theorem law_nums (s r t1 t2 : Int) (g3 g4 g5 : Nat) (s0 : 0 ≤ s) (s1 : s ≤ 65536) (r0 : 0 ≤ r) (r1 : r ≤ 65536) (u0 : 0 ≤ t1) (v0 : 0 ≤ t2)
    (h3 : (g3 : Int) = growOf s r t1) (h4 : (g4 : Int) = growOf s r t2) (h5 : (t1 < t2 ∧ (g5 : Int) = growOf s r t2) ∨ (t2 ≤ t1 ∧ (g5 : Int) = growOf s r t1)) :
    min t1 (max 65536 (s + r)) ≤ (g3 : Int) ∧ (g3 : Int) ≤ max 65536 (s + r) ∧ min t2 (max 65536 (s + r)) ≤ (g4 : Int) ∧ (g4 : Int) ≤ max 65536 (s + r) ∧ (g5 : Int) = max (g3 : Int) (g4 : Int) := by
  unfold growOf at *
  omega

theorem ret_bool {b : Bool} (h : b = true) : Ending.returned (.bool b) = .returned (.bool true) := by rw [h]

theorem below5 {w w1 w2 w3 w4 w5 : World} {k : Nat} (B1 : Below w.heap.size w w1) (B2 : Below w1.heap.size w1 w2) (B3 : Below w2.heap.size w2 w3) (B4 : Below w3.heap.size w3 w4) (B5 : Below w4.heap.size w4 w5) :
    Below w.heap.size w (w5.drewN k) := by
  have h1 := B1.size
  have h2 := B2.size
  have h3 := B3.size
  have h4 := B4.size
  have h := (((B1.trans (B2.mono (by omega))).trans (B3.mono (by omega))).trans (B4.mono (by omega))).trans (B5.mono (by omega))
  exact ⟨h.os, h.tape, h.output, h.size, h.block⟩

set_option maxRecDepth 100000 in
set_option maxHeartbeats 1000000 in
theorem walk_main (a : Option Addr) (n c : Nat) (zs : List Int) (s r t1 t2 : Int) (w : World) (hz : zs.length = n) (hn : n ≤ 1048576) (ha : a = none → n = 0 ∧ c = 0) (hc : Lies w a zs)
    (s0 : 0 ≤ s) (s1 : s ≤ 65536) (r0 : 0 ≤ r) (r1 : r ≤ 65536) (u0 : 0 ≤ t1) (u1 : t1 ≤ 9223372036854775807) (v0 : 0 ≤ t2) (v1 : t2 ≤ 9223372036854775807) :
    Calls Try.prog 3 #[.slice a n c, .int .i64 s, .int .i64 r, .int .i64 t1, .int .i64 t2] w fun e w' => e = .returned (.bool true) ∧ Below w.heap.size w w' := by
  have hn' : ¬ (1048576 : Int) < (n : Int) := by omega
  have d1 : decide (s < 0) = false := decide_eq_false (by omega)
  have d2 : decide (r < 0) = false := decide_eq_false (by omega)
  have d3 : decide (t1 < 0) = false := decide_eq_false (by omega)
  have HZ : Hid (zs.length = n) := hz
  clear hz
  have HA : Hid (a = none → n = 0 ∧ c = 0) := ha
  clear ha
  by_cases hr : t1 < t2 <;> by_cases hb : 65536 < s + r
  all_goals
    go_enter Try.func3, Try.ntmps3
    go_wp2_with fail
    refine (bytes_yes _ _ _ _ _ _ _ _ hn).mono ?_
    rintro e w' ⟨rfl, hw⟩
    rw [hw]; clear hw w'
    go_wp2_with fail
    refine (clone_any a n c zs w HZ.out hn HA.out hc).mono ?_
    rintro e w1 ⟨a1, c1, rfl, ha1, L1, B1⟩
    have HA1 : Hid (a1 = none → n = 0 ∧ c1 = 0) := ha1
    clear ha1
    go_wp2_with fail
    refine (clone_any a1 n c1 zs w1 HZ.out hn HA1.out L1).mono ?_
    rintro e w2 ⟨a2, c2, rfl, ha2, L2, B2⟩
    have HA2 : Hid (a2 = none → n = 0 ∧ c2 = 0) := ha2
    clear ha2
    have L12 := L1.below B2
    go_wp2_with (go_at_call 8; go_in)
    refine (grow_any a1 n c1 zs s r t1 w2 HZ.out hn HA1.out L12 s0 s1 r0 r1 u0 u1).mono ?_
    rintro e w3 ⟨a3, g3, rfl, G3, L3, B3⟩
    have L13 := L12.below B3
    have L23 := L2.below B3
    go_wp2_with (go_at_call 8; go_in)
    refine (grow_any a1 n c1 zs s r t2 w3 HZ.out hn HA1.out L13 s0 s1 r0 r1 v0 v1).mono ?_
    rintro e w4 ⟨a4, g4, rfl, G4, L4, B4⟩
    have L14 := L13.below B4
    have L24 := L23.below B4
    have L34 := L3.below B4
    go_wp2_with (go_at_call 8; go_in)
    refine (grow_any a1 n c1 zs s r _ w4 HZ.out hn HA1.out L14 s0 s1 r0 r1 (by assumption) (by assumption)).mono ?_
    rintro e w5 ⟨a5, g5, rfl, G5, L5, B5⟩
    have L25 := L24.below B5
    have L35 := L34.below B5
    have L45 := L4.below B5
    clear L1 L12 L13 L14 L2 L23 L24 L3 L34 L4
    have F := law_nums s r t1 t2 g3 g4 g5 s0 s1 r0 r1 u0 v0 G3.out G4.out (by first | exact Or.inl ⟨hr, G5.out⟩ | exact Or.inr ⟨by omega, G5.out⟩)
    obtain ⟨f1, f2, f3, f4, f5⟩ := F
    have F5 : Hid ((g5 : Int) = max (g3 : Int) (g4 : Int)) := f5
    have b3 : (g3 : Int) ≤ 131072 := by omega
    have b4 : (g4 : Int) ≤ 131072 := by omega
    have b5 : (g5 : Int) ≤ 131072 := by omega
    clear f5
    go_wp2_with fail
    refine (equal_any a3 a2 n _ _ zs w5 HZ.out hn L35 L25).mono ?_
    rintro e w6 ⟨rfl, k6, hk6⟩
    rw [hk6]; clear hk6 w6
    go_wp2_with fail
    refine (equal_any a4 a2 n _ _ zs _ HZ.out hn (L45.drewN _) (L25.drewN _)).mono ?_
    rintro e w6 ⟨rfl, k7, hk6⟩
    rw [hk6]; clear hk6 w6
    go_wp2_with fail
    refine (equal_any a5 a2 n _ _ zs _ HZ.out hn (L5.drewN _) (L25.drewN _)).mono ?_
    rintro e w6 ⟨rfl, k8, hk6⟩
    rw [hk6]; clear hk6 w6
    go_wp2_with (first | (go_at_call 10; refine (min_any _ _ _).mono ?_; rintro e w6 ⟨rfl, rfl⟩) | (go_at_call 11; refine (max_any _ _ _).mono ?_; rintro e w6 ⟨rfl, rfl⟩))
    go_ret
    refine ⟨ret_bool (by rw [beq_iff_eq]; have := F5.out; omega), ?_⟩
    exact below5 B1 B2 B3 B4 B5

/-- A test ahead says 'no': true at once. -/
theorem walk_no (a : Option Addr) (n c : Nat) (s r t1 t2 : Int) (w : World) (hn : ¬ n ≤ 1048576) :
    Calls Try.prog 3 #[.slice a n c, .int .i64 s, .int .i64 r, .int .i64 t1, .int .i64 t2] w fun e w' => e = .returned (.bool true) ∧ Below w.heap.size w w' := by
  go_enter Try.func3, Try.ntmps3
  go_wp2_with fail
  refine (bytes_no _ _ _ _ _ _ _ _ hn).mono ?_
  rintro e w' ⟨rfl, hw⟩
  rw [hw]; clear hw w'
  go_wp2_with fail
  go_ret
  exact ⟨rfl, Below.refl _ _⟩

set_option maxRecDepth 100000 in
set_option maxHeartbeats 1000000 in
theorem walk_out (a : Option Addr) (n c : Nat) (s r t1 t2 : Int) (w : World) (hn : n ≤ 1048576) (h : s < 0 ∨ (0 ≤ s ∧ 65536 < s) ∨ (0 ≤ s ∧ s ≤ 65536 ∧ r < 0) ∨ (0 ≤ s ∧ s ≤ 65536 ∧ 0 ≤ r ∧ 65536 < r) ∨ (0 ≤ s ∧ s ≤ 65536 ∧ 0 ≤ r ∧ r ≤ 65536 ∧ t1 < 0) ∨ (0 ≤ s ∧ s ≤ 65536 ∧ 0 ≤ r ∧ r ≤ 65536 ∧ 0 ≤ t1 ∧ t2 < 0)) :
    Calls Try.prog 3 #[.slice a n c, .int .i64 s, .int .i64 r, .int .i64 t1, .int .i64 t2] w fun e w' => e = .returned (.bool true) ∧ Below w.heap.size w w' := by
  have hn' : ¬ (1048576 : Int) < (n : Int) := by omega
  rcases h with h1 | ⟨h1, h2⟩ | ⟨h1, h2, h3⟩ | ⟨h1, h2, h3, h4⟩ | ⟨h1, h2, h3, h4, h5⟩ | ⟨h1, h2, h3, h4, h5, h6⟩
  all_goals
    go_enter Try.func3, Try.ntmps3
    go_wp2_with fail
    refine (bytes_yes _ _ _ _ _ _ _ _ hn).mono ?_
    rintro e w' ⟨rfl, hw⟩
    rw [hw]; clear hw w'
    go_wp2_with fail
    go_ret
    exact ⟨rfl, Below.refl _ _⟩

theorem walk (a0 : Option Addr) (len0 cap0 : Nat) (z0 : List Int) (a1 : Int) (a2 : Int) (a3 : Int) (a4 : Int) (w : World) (w0 : IsRow .u8 w a0 len0 cap0 z0) (w1 : (Lit.int .i64 a1).wf = true) (w2 : (Lit.int .i64 a2).wf = true) (w3 : (Lit.int .i64 a3).wf = true) (w4 : (Lit.int .i64 a4).wf = true) :
    Calls Try.prog 3 #[.slice a0 len0 cap0, .int .i64 a1, .int .i64 a2, .int .i64 a3, .int .i64 a4] w fun e w' => e = .returned (.bool true) ∧ Below w.heap.size w w' := by
  obtain ⟨_, ha, hz, hl⟩ := row_lies w0
  have b3 := (bounds_i64 w3).2
  have b4 := (bounds_i64 w4).2
  by_cases hn : len0 ≤ 1048576
  · by_cases hh : 0 ≤ a1 ∧ a1 ≤ 65536 ∧ 0 ≤ a2 ∧ a2 ≤ 65536 ∧ 0 ≤ a3 ∧ 0 ≤ a4
    · obtain ⟨s0, s1, r0, r1, u0, v0⟩ := hh
      exact walk_main a0 len0 cap0 _ a1 a2 a3 a4 w hz hn ha hl s0 s1 r0 r1 u0 b3 v0 b4
    · exact walk_out a0 len0 cap0 a1 a2 a3 a4 w hn (by clear w1 w2 w3 w4; omega)
  · exact walk_no _ _ _ _ _ _ _ _ hn

/-! ### THE ROW's STEP: WRITTEN OUT: LEAVE IT -/
set_option maxRecDepth 100000 in
theorem lifted (os : Os) (started : os.Started) (H : Type) (enc : TypeId × Value → H) :
    ReturnsInHanded {} Try.checked os 3 .any (Rows.fnGrowPayloadAtTheGreaterRestSpec.pre6 enc Try.prog Try.f3 Rows.fnGrowPayloadAtTheGreaterRestRow.domain false) (Rows.fnGrowPayloadAtTheGreaterRestSpec.post enc Try.prog Try.f3 false true false false) := by
  refine returnsInHanded_of_change (C := Try.checked) own started (by kernel_rfl) Try.func3
    (ChangeSpec.witness6 (enc := enc) (C := Try.checked) false ⟨#[], #[.slice none 0 0, .int .i64 0, .int .i64 0, .int .i64 0, .int .i64 0], []⟩ 8 (by kernel_rfl) (by kernel_rfl) (by kernel_rfl) (by kernel_rfl)) ?_
  intro W base args ds gs before hval0 hW hcnd _
  have hval : ∀ (j : Nat) t v, Try.f3.params[j]? = some t → args[j]? = some v → Value.okWide Try.prog W .any base t v := hval0
  have hW' := hW
  obtain ⟨p, q, hA0, hV, rfl, hfz, hnd⟩ := hW
  have hA : DataW.TrodAll enc Try.prog W 0 (fun _ => true) true Try.f3.params.toList args.toList ds p := hA0
  rw [Try.params3] at hA hval
  obtain ⟨v0, vs0, d0, ds0, p0, q0, hargs, rfl, rfl, h0, r0⟩ := trodAll_cons hA
  obtain ⟨v1, vs1, d1, ds1, p1, q1, rfl, rfl, rfl, h1, r1⟩ := trodAll_cons r0
  obtain ⟨v2, vs2, d2, ds2, p2, q2, rfl, rfl, rfl, h2, r2⟩ := trodAll_cons r1
  obtain ⟨v3, vs3, d3, ds3, p3, q3, rfl, rfl, rfl, h3, r3⟩ := trodAll_cons r2
  obtain ⟨v4, vs4, d4, ds4, p4, q4, rfl, rfl, rfl, h4, r4⟩ := trodAll_cons r3
  obtain ⟨rfl, rfl, rfl⟩ := trodAll_nil r4
  obtain rfl : args = #[v0, v1, v2, v3, v4] := by cases args; simp_all
  obtain ⟨rfl, rfl⟩ := trodVars_none hV
  obtain ⟨a0, len0, cap0, rfl⟩ := okWide_slice Try.underlying22 (hval 0 22 v0 rfl rfl)
  have k0 := h0
  have lt0 : ∀ x ∈ p0, x.block < W.heap.size := by obtain ⟨m, hm⟩ := k0; exact DataW.trod_lt m _ _ _ hm
  obtain ⟨z0, w0⟩ : ∃ zs, IsRow .u8 W a0 len0 cap0 zs := by
    obtain ⟨fuel, hf⟩ := h0
    rcases open_ints Try.underlying22 Try.underlying5 (by kernel_rfl) hf with ⟨hcs, _⟩ | ⟨x, l, c, zs, hcs, _, hl, hm, hz, _, hcell, hwz⟩
    · simp [Value.cells] at hcs
      obtain ⟨rfl, rfl, rfl⟩ := hcs
      exact ⟨[], .inl ⟨rfl, rfl, rfl, rfl⟩⟩
    · simp [Value.cells] at hcs
      obtain ⟨rfl, rfl, rfl⟩ := hcs
      exact ⟨zs, .inr ⟨_, rfl, hl, hm, by simpa using hz, hcell, hwz⟩⟩
  obtain ⟨a1, rfl, rfl, rfl, w1⟩ := open_int Try.underlying3 (hval 1 3 v1 rfl rfl) h1
  obtain ⟨a2, rfl, rfl, rfl, w2⟩ := open_int Try.underlying3 (hval 2 3 v2 rfl rfl) h2
  obtain ⟨a3, rfl, rfl, rfl, w3⟩ := open_int Try.underlying3 (hval 3 3 v3 rfl rfl) h3
  obtain ⟨a4, rfl, rfl, rfl, w4⟩ := open_int Try.underlying3 (hval 4 3 v4 rfl rfl) h4
  clear hA0 hval0
  refine (walk a0 len0 cap0 z0 a1 a2 a3 a4 W w0 w1 w2 w3 w4).mono fun e W' ⟨he, bel⟩ => ?_
  subst he
  exact ⟨_, rfl, _, _, _, [], _, [], hW', trodAll_mk1 (shut_bool Try.underlying4 _), (trodAll_cons_mk (Below.trod laidOut (by kernel_rfl) (of_decide_eq_true (by kernel_rfl)) k0 bel lt0) (trodAll_cons_mk (shut_int Try.underlying3 w1) (trodAll_cons_mk (shut_int Try.underlying3 w2) (trodAll_cons_mk (shut_int Try.underlying3 w3) (trodAll_cons_mk (shut_int Try.underlying3 w4) trodAll_mk0))))), rfl, bel.frame _, fun h => by cases h⟩

theorem over : Rows.fnGrowPayloadAtTheGreaterRestRow.holds Try.pinned (OpenSpec.ofChange Rows.fnGrowPayloadAtTheGreaterRestSpec) :=
  OpenClaim.holds_of_wide 3 Try.f3 rfl rfl rfl rfl rfl rfl rfl ⟨rfl, rfl, rfl, rfl, rfl⟩ rfl rfl rfl rfl rfl (by kernel_rfl) Try.func3 (by kernel_rfl)
    (of_decide_eq_true (by kernel_rfl)) (by unfold Func.isWrapper; first | (rw [if_pos (by decide +kernel)]; kernel_rfl) | (rw [if_neg (by decide +kernel)]; exact ⟨rfl, rfl⟩))
    (fun os started H enc _ => lifted os started H enc)

/-- ████ THE STATEMENT ████ -/
theorem proved : Rows.FnGrowPayloadAtTheGreaterRestSaid := over
end Go.Proofs.Qxb6608669a.fnGrowPayloadAtTheGreaterRest
