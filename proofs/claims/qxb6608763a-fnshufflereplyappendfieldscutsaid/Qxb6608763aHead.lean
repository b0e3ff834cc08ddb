/-
  Seat b6608763a: appendHead. By an AI agent.
-/
import Derived.Test.Qxb6608763aLaid
import Derived.Laws.BitsAllLaws
import Derived.Laws.Bits64
import Derived.Deep.RegionHeld3
import Derived.Deep.AppendLies
namespace Go.Proofs.Qxb6608763a
open Go.RowKit

/-- What appends of the numbers zs leave. -/
abbrev Grew (B : Nat) (w w' : World) (sv v' : Value) (n : Nat) (zs : List Int) : Prop := Fine B w w' sv v' n (bc zs)

theorem Fine.trans {B n1 n2 : Nat} {w w1 w2 : World} {sv v1 v2 : Value} {x1 x2 : List Value} (h : Fine B w w1 sv v1 n1 x1) (k : Fine B w1 w2 v1 v2 n2 x2) : Fine B w w2 sv v2 n2 x2 := by
  refine ⟨k.own, ⟨k.grown.os.trans h.grown.os, k.grown.tape.trans h.grown.tape, k.grown.output.trans h.grown.output, Nat.le_trans h.grown.size k.grown.size, fun j hj hne => ?_⟩, fun j hj => ?_⟩
  · rw [k.grown.block j (Nat.lt_of_lt_of_le hj h.grown.size) ?_, h.grown.block j hj hne]
    intro e
    rcases h.blk j e.symm with h' | h'
    · exact hne h'.symm
    · omega
  · rcases k.blk j hj with h' | h'
    · exact h.blk j h'
    · exact .inr (Nat.le_trans h.grown.size h')

theorem Fine.below {B n : Nat} {w w' : World} {sv v' : Value} {xs : List Value} (h : Fine B w w' sv v' n xs) (hB : B ≤ w.heap.size) (hs : ∀ k, sv.ownBlock = some k → B ≤ k) : Below B w w' :=
  ⟨h.grown.os, h.grown.tape, h.grown.output, h.grown.size, fun k hk => h.grown.block k (by omega) (fun e => by have := hs k e.symm; omega)⟩

theorem Fine.of_drew {B n : Nat} {w w' : World} {sv v' : Value} {xs : List Value} (h : Fine B w.drew w' sv v' n xs) : Fine B w w' sv v' n xs :=
  ⟨h.own, ⟨h.grown.os, h.grown.tape, h.grown.output, h.grown.size, h.grown.block⟩, h.blk⟩

theorem Fine.drewN {B n : Nat} {w w' : World} {sv v' : Value} {xs : List Value} (h : Fine B w w' sv v' n xs) (k : Nat) : Fine B w (w'.drewN k) sv v' n xs :=
  ⟨h.own, ⟨h.grown.os, h.grown.tape, h.grown.output, h.grown.size, h.grown.block⟩, h.blk⟩

/-- A block laid ahead of the append. -/
theorem Fine.of_alloc {B n : Nat} {w w' : World} {sv v' : Value} {xs : List Value} (o : Obj) (h : Fine B (w.alloc o) w' sv v' n xs) : Fine B w w' sv v' n xs := by
  refine ⟨h.own, Lib.grownBy_trans (World.grownBy_alloc w o _) h.grown, fun k hk => ?_⟩
  rcases h.blk k hk with h' | h'
  · exact .inl h'
  · simp at h'
    exact .inr (by omega)

theorem app_eq (B n : Nat) (sv : Value) (zs news : List Int) (w : World) (h : w.ownsRow B 5 1 sv n (bc zs)) (hB : B ≤ w.heap.size) (hn : n + news.length ≤ 8388608) :
    ∃ v' w', (Builtin.append_ #[22, 22] 22 #[sv, .slice (some ⟨w.heap.size, 0, none⟩) news.length news.length]).run Try.prog (w.alloc (.cells (bc news).toArray 5)) = .ok v' w' ∧ Grew B w w' sv v' (n + news.length) (zs ++ news) := by
  obtain ⟨i, hi, hzz⟩ := Option.map_eq_some_iff.1 Try.info5
  simp only [Prod.mk.injEq] at hzz
  obtain ⟨hz, hs, hb⟩ := hzz
  obtain ⟨v', w', h1, h2, h3, _, h5⟩ := run_append_own_at (P := Try.prog) (w.alloc (.cells (bc news).toArray 5)) B 22 22 5 i (.int .u8 0) 1 1 Try.underlying22 hi hz hs hb rfl (by omega) sv n (bc zs) (h.alloc _)
    ⟨w.heap.size, 0, none⟩ news.length news.length (bc news) (by simp [bc_length]) (by
      intro j u hj
      rw [Addr.add_lit, Nat.zero_add, World.cell?_alloc_new]
      simpa using hj) (bc_one _) (by unfold maxLen; omega) (by omega) (by simp; omega)
  refine ⟨v', w', h1, Fine.of_alloc _ ⟨by rw [bc_append]; exact h2, h3, fun k hk => ?_⟩⟩
  rcases h5 with h5 | h5
  · exact .inl (by rw [← h5]; exact hk)
  · rw [h5] at hk
    injection hk with hk
    exact .inr (by omega)

theorem or_low (m v : Nat) (hm : m < 8) (hv : v < 32) : bits .or .u8 ((m : Int) * 32) (v : Int) = ((m * 32 + v : Nat) : Int) := by
  have h1 : bits .or .u8 ((m * 32 : Nat) : Int) (v : Int) = ((m * 32 ||| v : Nat) : Int) := u8_or_nat _ _ (by omega) (by omega)
  rw [show (m : Int) * 32 = ((m * 32 : Nat) : Int) by omega, h1]
  have := Nat.two_pow_add_eq_or_of_lt (i := 5) (b := v) (by omega) m
  rw [show m * 32 = 2 ^ 5 * m by omega, this]

/-- An append whose run is known. -/
theorem wp_app {P : Program} {W w' : World} {v' : Value} {o : Oper} {a : Act} {K : Act → World → Prop} {Q : Exit → Act → World → Prop} (s x : Operand) (t u : TypeId)
    (ho : o.op = .call { callee := .builtin .append, args := #[s, x], argTypes := #[t, u] }) (sv xv : Value) (hs : a.eval s = sv) (hx : a.eval x = xv)
    (hr : (Builtin.append_ #[t, u] o.type #[sv, xv]).run P W = .ok v' w') (h : K (a.put o.dst v') w') : o.wp P a W K Q := by
  unfold Oper.wp execOp
  simp only [ho, resolve, invoke, builtin, Sem.run_bind, Sem.run_pure, Result.andThen_ok, List.map_toArray, List.map_cons, List.map_nil, hs, hx, hr]
  exact h

theorem wpList_app {P : Program} {W w' : World} {v' : Value} {ops : Array Oper} {rest : List Oper} {o : Oper} {a : Act} {Q : Exit → Act → World → Prop} (hgd : o.guard = none) (s x : Operand) (t u : TypeId)
    (ho : o.op = .call { callee := .builtin .append, args := #[s, x], argTypes := #[t, u] }) (sv xv : Value) (hs : a.eval s = sv) (hx : a.eval x = xv)
    (hr : (Builtin.append_ #[t, u] o.type #[sv, xv]).run P W = .ok v' w') (h : wpList P ops Q rest (a.put o.dst v') w') : wpList P ops Q (o :: rest) a W :=
  wpList_plain hgd fun _ hK => wp_app s x t u ho sv xv hs hx hr (hK _ _ h)

theorem step_app {P : Program} {W w' : World} {v' : Value} {ops : Array Oper} {o : Oper} {a : Act} {K : Act → World → Prop} {Q : Exit → Act → World → Prop} {E : Prop} (hgd : o.guard = none) (s x : Operand) (t u : TypeId)
    (ho : o.op = .call { callee := .builtin .append, args := #[s, x], argTypes := #[t, u] }) (sv xv : Value) (hs : a.eval s = sv) (hx : a.eval x = xv)
    (hr : (Builtin.append_ #[t, u] o.type #[sv, xv]).run P W = .ok v' w') (h : K (a.put o.dst v') w') : if Region.wanted o (yielded ops a.tmps) = true then Oper.wp P o a W K Q else E := by
  have hw : Region.wanted o (yielded ops a.tmps) = true := by simp [Region.wanted, hgd]
  rw [if_pos hw]
  exact wp_app s x t u ho sv xv hs hx hr h

set_option maxRecDepth 100000 in
set_option maxHeartbeats 400000 in
theorem head1 (B m v n : Nat) (sv : Value) (zs : List Int) (w : World) (h : w.ownsRow B 5 1 sv n (bc zs)) (hB : B ≤ w.heap.size) (hn : n ≤ 4194304) (hm : m < 8) (hv : v < 24) :
    Calls Try.prog 30 #[sv, .int .u8 (m : Int), .int .u64 (v : Int)] w fun e w' => ∃ v', e = .returned v' ∧ Grew B w w' sv v' (n + (hd m v).length) (zs ++ hd m v) := by
  have d0 : decide ((v : Int) < 24) = true := decide_eq_true (by omega)
  have e1 : hd m v = [((m * 32 + v : Nat) : Int)] := by unfold hd; rw [if_pos hv]
  obtain ⟨v', w', hap, hG⟩ := app_eq B n sv zs [((m * 32 + v : Nat) : Int)] w h hB (by simp; omega)
  rw [e1]
  have hor := or_low m v hm (by omega)
  obtain ⟨a, c, rfl, -, -, -, -⟩ := owns_lies h
  obtain ⟨b, hb⟩ : ∃ b, b = ((m * 32 + v : Nat) : Int) := ⟨_, rfl⟩
  rw [← hb] at hor hap hG ⊢
  have HG := hid hG
  have HAP := hid hap
  clear hap h hG e1 hb
  go_enter Try.func30, Try.ntmps30
  go_wp2_with (at_builtin; refine wpList_app rfl (.tmp 12) (.tmp 17) 22 22 rfl _ _ rfl rfl HAP.out ?_)
  go_ret
  exact ⟨_, rfl, HG.out⟩

set_option maxRecDepth 100000 in
set_option maxHeartbeats 400000 in
theorem head2 (B m v n : Nat) (sv : Value) (zs : List Int) (w : World) (h : w.ownsRow B 5 1 sv n (bc zs)) (hB : B ≤ w.heap.size) (hn : n ≤ 4194304) (hm : m < 8) (hv : 24 ≤ v) (hv1 : v < 256) :
    Calls Try.prog 30 #[sv, .int .u8 (m : Int), .int .u64 (v : Int)] w fun e w' => ∃ v', e = .returned v' ∧ Grew B w w' sv v' (n + (hd m v).length) (zs ++ hd m v) := by
  have d0 : decide ((v : Int) < 24) = false := decide_eq_false (by omega)
  have d1 : decide ((v : Int) ≤ 255) = true := decide_eq_true (by omega)
  have e1 : hd m v = [((m * 32 + 24 : Nat) : Int), (v : Int)] := by
    unfold hd
    rw [if_neg (by omega), if_pos hv1]
    simp [be]
    omega
  obtain ⟨v', w', hap, hG⟩ := app_eq B n sv zs [((m * 32 + 24 : Nat) : Int), (v : Int)] w h hB (by simp; omega)
  rw [e1]
  have hor : bits .or .u8 ((m : Int) * 32) 24 = _ := or_low m 24 hm (by omega)
  obtain ⟨a, c, rfl, -, -, -, -⟩ := owns_lies h
  obtain ⟨b, hb⟩ : ∃ b, b = ((m * 32 + 24 : Nat) : Int) := ⟨_, rfl⟩
  rw [← hb] at hor hap hG ⊢
  have HG := hid hG
  have HAP := hid hap
  clear hap h hG e1 hb
  go_enter Try.func30, Try.ntmps30
  go_wp2_with (at_builtin; refine wpList_app rfl (.tmp 21) (.tmp 26) 22 22 rfl _ _ rfl rfl HAP.out ?_)
  go_ret
  exact ⟨_, rfl, HG.out⟩

/-- A head in two steps. -/
theorem grew_two {B n k v : Nat} {w w' w2 : World} {sv v' v2 : Value} {zs : List Int} {b : Int} (hG : Grew B w.drew w' sv v' (n + [b].length) (zs ++ [b])) (q : Grew B w' w2 v' v2 (n + 1 + k) (zs ++ [b] ++ be k v)) :
    Grew B w w2 sv v2 (n + (b :: be k v).length) (zs ++ b :: be k v) := by
  have h := hG.of_drew.trans q
  rw [List.append_assoc] at h
  rw [List.length_cons, be_length, show n + (k + 1) = n + 1 + k by omega]
  exact h

set_option maxRecDepth 100000 in
set_option maxHeartbeats 400000 in
theorem head3 (B m v n : Nat) (sv : Value) (zs : List Int) (w : World) (h : w.ownsRow B 5 1 sv n (bc zs)) (hB : B ≤ w.heap.size) (hn : n ≤ 4194304) (hm : m < 8) (hv : 256 ≤ v) (hv1 : v < 65536) :
    Calls Try.prog 30 #[sv, .int .u8 (m : Int), .int .u64 (v : Int)] w fun e w' => ∃ v', e = .returned v' ∧ Grew B w w' sv v' (n + (hd m v).length) (zs ++ hd m v) := by
  have d0 : decide ((v : Int) < 24) = false := decide_eq_false (by omega)
  have d1 : decide ((v : Int) ≤ 255) = false := decide_eq_false (by omega)
  have d2 : decide ((v : Int) ≤ 65535) = true := decide_eq_true (by omega)
  have e1 : hd m v = ((m * 32 + 25 : Nat) : Int) :: be 2 v := by
    unfold hd
    rw [if_neg (by omega), if_neg (by omega), if_pos hv1]
  obtain ⟨v', w', hap, hG⟩ := app_eq B n sv zs [((m * 32 + 25 : Nat) : Int)] w.drew h hB (by simp; omega)
  rw [e1]
  have hor : bits .or .u8 ((m : Int) * 32) 25 = _ := or_low m 25 hm (by omega)
  obtain ⟨a, c, rfl, -, -, -, -⟩ := owns_lies h
  obtain ⟨b, hb⟩ : ∃ b, b = ((m * 32 + 25 : Nat) : Int) := ⟨_, rfl⟩
  rw [← hb] at hor hap hG ⊢
  have hwr : IntKind.u16.wrap (v : Int) = (v : Int) := by rw [IntKind.wrap_u16]; omega
  have HC := app16 B (n + 1) v hv1 v' _ w' hG.own (Nat.le_trans hB hG.grown.size) (by omega)
  rw [be_cells, ← bc_append, ← hwr] at HC
  clear hwr
  have HG := hid hG
  have HAP := hid hap
  clear hap h hG e1 hb hv hv1
  go_enter Try.func30, Try.ntmps30
  go_wp2
  go_region_held3 (fun _ => True) (trivial) (first
    | (refine step_app (by rfl) (.tmp 31) (.tmp 34) 22 22 (by rfl) _ _ (by rfl) (by rfl) HAP.out ?_)
    | (go_at_call 34; refine HC.mono ?_; rintro e w2 ⟨v2, rfl, q1⟩))
  go_wp2
  go_ret
  exact ⟨_, rfl, grew_two HG.out q1⟩

set_option maxRecDepth 100000 in
set_option maxHeartbeats 400000 in
theorem head4 (B m v n : Nat) (sv : Value) (zs : List Int) (w : World) (h : w.ownsRow B 5 1 sv n (bc zs)) (hB : B ≤ w.heap.size) (hn : n ≤ 4194304) (hm : m < 8) (hv : 65536 ≤ v) (hv1 : v < 4294967296) :
    Calls Try.prog 30 #[sv, .int .u8 (m : Int), .int .u64 (v : Int)] w fun e w' => ∃ v', e = .returned v' ∧ Grew B w w' sv v' (n + (hd m v).length) (zs ++ hd m v) := by
  have d0 : decide ((v : Int) < 24) = false := decide_eq_false (by omega)
  have d1 : decide ((v : Int) ≤ 255) = false := decide_eq_false (by omega)
  have d2 : decide ((v : Int) ≤ 65535) = false := decide_eq_false (by omega)
  have d3 : decide ((v : Int) ≤ 4294967295) = true := decide_eq_true (by omega)
  have e1 : hd m v = ((m * 32 + 26 : Nat) : Int) :: be 4 v := by
    unfold hd
    rw [if_neg (by omega), if_neg (by omega), if_neg (by omega), if_pos hv1]
  obtain ⟨v', w', hap, hG⟩ := app_eq B n sv zs [((m * 32 + 26 : Nat) : Int)] w.drew h hB (by simp; omega)
  rw [e1]
  have hor : bits .or .u8 ((m : Int) * 32) 26 = _ := or_low m 26 hm (by omega)
  obtain ⟨a, c, rfl, -, -, -, -⟩ := owns_lies h
  obtain ⟨b, hb⟩ : ∃ b, b = ((m * 32 + 26 : Nat) : Int) := ⟨_, rfl⟩
  rw [← hb] at hor hap hG ⊢
  have hwr : IntKind.u32.wrap (v : Int) = (v : Int) := by rw [IntKind.wrap_u32]; omega
  have HC := app32 B (n + 1) v hv1 v' _ w' hG.own (Nat.le_trans hB hG.grown.size) (by omega)
  rw [be_cells, ← bc_append, ← hwr] at HC
  clear hwr
  have HG := hid hG
  have HAP := hid hap
  clear hap h hG e1 hb hv hv1
  go_enter Try.func30, Try.ntmps30
  go_wp2
  go_region_held3 (fun _ => True) (trivial) (first
    | (refine step_app (by rfl) (.tmp 42) (.tmp 45) 22 22 (by rfl) _ _ (by rfl) (by rfl) HAP.out ?_)
    | (go_at_call 35; refine HC.mono ?_; rintro e w2 ⟨v2, rfl, q1⟩))
  go_wp2
  go_ret
  exact ⟨_, rfl, grew_two HG.out q1⟩

set_option maxRecDepth 100000 in
set_option maxHeartbeats 400000 in
theorem head5 (B m v n : Nat) (sv : Value) (zs : List Int) (w : World) (h : w.ownsRow B 5 1 sv n (bc zs)) (hB : B ≤ w.heap.size) (hn : n ≤ 4194304) (hm : m < 8) (hv : 4294967296 ≤ v) (hv1 : v < 18446744073709551616) :
    Calls Try.prog 30 #[sv, .int .u8 (m : Int), .int .u64 (v : Int)] w fun e w' => ∃ v', e = .returned v' ∧ Grew B w w' sv v' (n + (hd m v).length) (zs ++ hd m v) := by
  have d0 : decide ((v : Int) < 24) = false := decide_eq_false (by omega)
  have d1 : decide ((v : Int) ≤ 255) = false := decide_eq_false (by omega)
  have d2 : decide ((v : Int) ≤ 65535) = false := decide_eq_false (by omega)
  have d3 : decide ((v : Int) ≤ 4294967295) = false := decide_eq_false (by omega)
  have e1 : hd m v = ((m * 32 + 27 : Nat) : Int) :: be 8 v := by
    unfold hd
    rw [if_neg (by omega), if_neg (by omega), if_neg (by omega), if_neg (by omega)]
  obtain ⟨v', w', hap, hG⟩ := app_eq B n sv zs [((m * 32 + 27 : Nat) : Int)] w.drew h hB (by simp; omega)
  rw [e1]
  have hor : bits .or .u8 ((m : Int) * 32) 27 = _ := or_low m 27 hm (by omega)
  obtain ⟨a, c, rfl, -, -, -, -⟩ := owns_lies h
  obtain ⟨b, hb⟩ : ∃ b, b = ((m * 32 + 27 : Nat) : Int) := ⟨_, rfl⟩
  rw [← hb] at hor hap hG ⊢
  have HC := app64 B (n + 1) v hv1 v' _ w' hG.own (Nat.le_trans hB hG.grown.size) (by omega)
  rw [be_cells, ← bc_append] at HC
  have HG := hid hG
  have HAP := hid hap
  clear hap h hG e1 hb hv hv1
  go_enter Try.func30, Try.ntmps30
  go_wp2
  go_region_held3 (fun _ => True) (trivial) (first
    | (refine step_app (by rfl) (.tmp 51) (.tmp 54) 22 22 (by rfl) _ _ (by rfl) (by rfl) HAP.out ?_)
    | (go_at_call 36; refine HC.mono ?_; rintro e w2 ⟨v2, rfl, q1⟩))
  go_wp2
  go_ret
  exact ⟨_, rfl, grew_two HG.out q1⟩

/-- appendHead. -/
theorem head_any (B m v n : Nat) (sv : Value) (zs : List Int) (w : World) (h : w.ownsRow B 5 1 sv n (bc zs)) (hB : B ≤ w.heap.size) (hn : n ≤ 4194304) (hm : m < 8) (hv : v < 18446744073709551616) :
    Calls Try.prog 30 #[sv, .int .u8 (m : Int), .int .u64 (v : Int)] w fun e w' => ∃ v', e = .returned v' ∧ Grew B w w' sv v' (n + (hd m v).length) (zs ++ hd m v) := by
  by_cases h1 : v < 24
  · exact head1 B m v n sv zs w h hB hn hm h1
  · by_cases h2 : v < 256
    · exact head2 B m v n sv zs w h hB hn hm (by omega) h2
    · by_cases h3 : v < 65536
      · exact head3 B m v n sv zs w h hB hn hm (by omega) h3
      · by_cases h4 : v < 4294967296
        · exact head4 B m v n sv zs w h hB hn hm (by omega) h4
        · exact head5 B m v n sv zs w h hB hn hm (by omega) hv
end Go.Proofs.Qxb6608763a
