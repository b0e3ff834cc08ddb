/-
  Seat b6608669aD: a bufio.Writer over a bytes.Buffer: Available, Buffered, Flush. By an AI agent.
-/
import Derived.Test.Qxb6608669aDoorWrite
namespace Go.Proofs.Qxb6608669aDoor
open Go.RowKit

/-- A bufio.Writer (block bw, buffer row gb of S bytes) over a bytes.Buffer (block bb): 'held' lies in the writer's buffer, 'out' in the Buffer. -/
structure Bw (B bw gb bb S : Nat) (row : Option Nat) (held out : List Value) (w : World) : Prop where
  wr : w.heap[bw]? = some (.cells #[.nilIface, .slice (some ⟨gb, 0, none⟩) S S, .int .i64 (held.length : Int), .iface 38 (.pointer (some ⟨bb, 0, none⟩))] 59 (0, 0))
  buf : ∃ cur, Row w gb cur ∧ cur.length = S ∧ cur.take held.length = held
  fits : held.length ≤ S
  pos : 1 ≤ S
  lim : S ≤ 65536
  bf : Bf bb row out w
  n1 : gb ≠ bw
  n2 : gb ≠ bb
  n3 : bw ≠ bb
  n4 : row ≠ some gb
  n5 : row ≠ some bw
  b1 : B ≤ bw
  b2 : B ≤ gb
  b3 : B ≤ bb
  b4 : ∀ k, row = some k → B ≤ k
  one : ∀ v ∈ out ++ held, v.oneCell' = true

variable {B bw gb bb S : Nat} {row : Option Nat} {held out : List Value} {w : World}

theorem Bw.c0 (h : Bw B bw gb bb S row held out w) : w.cell? ⟨bw, 0, none⟩ = some .nilIface := by rw [cell_of_block h.wr]; rfl
theorem Bw.c1 (h : Bw B bw gb bb S row held out w) : w.cell? ⟨bw, 1, none⟩ = some (.slice (some ⟨gb, 0, none⟩) S S) := by rw [cell_of_block h.wr]; rfl
theorem Bw.c2 (h : Bw B bw gb bb S row held out w) : w.cell? ⟨bw, 2, none⟩ = some (.int .i64 (held.length : Int)) := by rw [cell_of_block h.wr]; rfl
theorem Bw.c3 (h : Bw B bw gb bb S row held out w) : w.cell? ⟨bw, 3, none⟩ = some (.iface 38 (.pointer (some ⟨bb, 0, none⟩))) := by rw [cell_of_block h.wr]; rfl

theorem Bf.drewN {b : Nat} {row : Option Nat} {bs : List Value} {w : World} (h : Bf b row bs w) (k : Nat) : Bf b row bs (w.drewN k) := h
theorem Bw.drewN (h : Bw B bw gb bb S row held out w) (k : Nat) : Bw B bw gb bb S row held out (w.drewN k) :=
  ⟨h.wr, h.buf, h.fits, h.pos, h.lim, h.bf, h.n1, h.n2, h.n3, h.n4, h.n5, h.b1, h.b2, h.b3, h.b4, h.one⟩
theorem Bw.drew (h : Bw B bw gb bb S row held out w) : Bw B bw gb bb S row held out w.drew :=
  ⟨h.wr, h.buf, h.fits, h.pos, h.lim, h.bf, h.n1, h.n2, h.n3, h.n4, h.n5, h.b1, h.b2, h.b3, h.b4, h.one⟩

/-- Available. -/
theorem available (h : Bw B bw gb bb S row held out w) : Calls Tryd.prog 32 #[.pointer (some ⟨bw, 0, none⟩)] w fun e w' => e = .returned (.int .i64 ((S - held.length : Nat) : Int)) ∧ ∃ k, w' = w.drewN k := by
  have c1 := h.c1
  have c2 := h.c2
  have hf := h.fits
  have hl := h.lim
  obtain ⟨n, hn⟩ : ∃ n, n = held.length := ⟨_, rfl⟩
  rw [← hn] at c2 hf
  rw [← hn]
  clear h hn
  have hw : IntKind.i64.wrap ((S : Int) - (n : Int)) = ((S - n : Nat) : Int) := by rw [IntKind.wrap_i64]; omega
  go_enter Tryd.func32, Tryd.ntmps32
  go_wp2
  go_quiet (fail)
  go_wp2
  go_ret
  exact ⟨by simp, _, rfl⟩

theorem buffered (h : Bw B bw gb bb S row held out w) : Calls Tryd.prog 33 #[.pointer (some ⟨bw, 0, none⟩)] w fun e w' => e = .returned (.int .i64 (held.length : Int)) ∧ w' = w := by
  have c2 := h.c2
  clear h
  go_enter Tryd.func33, Tryd.ntmps33
  go_wp2
  go_ret
  exact ⟨rfl, rfl⟩

/-- Flush, nothing held. -/
theorem flush_none (h : Bw B bw gb bb S row [] out w) : Calls Tryd.prog 29 #[.pointer (some ⟨bw, 0, none⟩)] w fun e w' => e = .returned .nilIface ∧ w' = w := by
  have c0 := h.c0
  have c2 := h.c2
  simp only [List.length_nil] at c2
  clear h
  go_enter Tryd.func29, Tryd.ntmps29
  go_wp2
  go_ret
  exact ⟨rfl, rfl⟩

theorem Row.drew {w : World} {g : Nat} {cur : List Value} (h : Row w g cur) : Row w.drew g cur := h

theorem row_cell {w : World} {g : Nat} {cur : List Value} (h : Row w g cur) (j : Nat) (v : Value) (hj : cur[j]? = some v) : w.cell? ⟨g, j, none⟩ = some v := by
  rw [cell_of_block h]
  simpa using hj

theorem method_write (a : Addr) (w : World) : (method 211 38 (.pointer (some a)) "Write").run Tryd.prog w = .ok (39, .pointer (some a)) w := by kernel_rfl
theorem nil_write (a : Addr) (w : World) : (nilAhead 211 38 (.pointer (some a)) "Write").run Tryd.prog w = .ok (some false) w := by kernel_rfl

/-- A Bw through a write of the Buffer beneath it. -/
theorem Bw.wrote {w w' : World} {row' : Option Nat} {cs : List Value} (h : Bw B bw gb bb S row held out w) (hb : Bf bb row' (out ++ cs) w') (hr : row' = row ∨ ∃ k, row' = some k ∧ w.heap.size ≤ k) (hT : Turn w w' bb row) (h1 : ∀ v ∈ cs, v.oneCell' = true)
    (hBs : B ≤ w.heap.size) : Bw B bw gb bb S row' held (out ++ cs) w' := by
  have hk : ∀ k, w.heap[k]? ≠ none → k ≠ bb → row ≠ some k → w'.heap[k]? = w.heap[k]? := by
    intro k hk hkb hkr
    refine hT.block k ?_ hkb (fun e => hkr e.symm)
    rcases Nat.lt_or_ge k w.heap.size with hl | hl
    · exact hl
    · exact absurd (Array.getElem?_eq_none hl) hk
  have hlt : ∀ k, w.heap[k]? ≠ none → k < w.heap.size := by
    intro k hk
    rcases Nat.lt_or_ge k w.heap.size with hl | hl
    · exact hl
    · exact absurd (Array.getElem?_eq_none hl) hk
  have hgb : ∃ cur, Row w gb cur ∧ cur.length = S ∧ cur.take held.length = held := h.buf
  obtain ⟨cur, hcur, hlen, htk⟩ := hgb
  have hgs : w.heap[gb]? ≠ none := by
    rw [show w.heap[gb]? = _ from hcur]
    simp
  have hws : w.heap[bw]? ≠ none := by
    rw [h.wr]
    simp
  refine ⟨by rw [hk bw hws h.n3 h.n5]; exact h.wr, ⟨cur, ?_, hlen, htk⟩, h.fits, h.pos, h.lim, hb, h.n1, h.n2, h.n3, ?_, ?_, h.b1, h.b2, h.b3, ?_, ?_⟩
  · unfold Row
    rw [hk gb hgs h.n2 h.n4]
    exact hcur
  · rcases hr with hr | ⟨k, hr, hl⟩
    · rw [hr]; exact h.n4
    · rw [hr]
      have := hlt gb hgs
      intro e
      injection e with e
      omega
  · rcases hr with hr | ⟨k, hr, hl⟩
    · rw [hr]; exact h.n5
    · rw [hr]
      have := hlt bw hws
      intro e
      injection e with e
      omega
  · intro k hk'
    rcases hr with hr | ⟨k', hr, hl⟩
    · exact h.b4 k (hr ▸ hk')
    · rw [hr] at hk'
      injection hk' with e
      omega
  · intro v hv
    simp only [List.mem_append] at hv
    rcases hv with (hv | hv) | hv
    · exact h.one v (by simp [hv])
    · exact h1 v hv
    · exact h.one v (by simp [hv])

theorem Turn.below {w w' : World} {b : Nat} {row : Option Nat} {B : Nat} (h : Turn w w' b row) (hs : B ≤ w.heap.size) (hb : B ≤ b) (hr : ∀ k, row = some k → B ≤ k) : Below B w w' := by
  refine Below.mk h.os h.tape h.output h.size ?_
  intro k hk
  refine h.block k (by omega) (by omega) ?_
  intro e
  have := hr k e.symm
  omega

theorem Bf.same {b : Nat} {row : Option Nat} {bs : List Value} {w w' : World} (h : Bf b row bs w) (hb : w'.heap[b]? = w.heap[b]?) (hr : ∀ k, row = some k → w'.heap[k]? = w.heap[k]?) : Bf b row bs w' := by
  obtain ⟨lr, ⟨h1, h2, h3⟩ | ⟨g, cur, h1, h2, h3, h4, h5, h6, h7⟩⟩ := h
  · exact ⟨lr, .inl ⟨h1, h2, by rw [hb]; exact h3⟩⟩
  · refine ⟨lr, .inr ⟨g, cur, h1, by rw [hb]; exact h2, ?_, h4, h5, h6, h7⟩⟩
    unfold Row
    rw [hr g h1]
    exact h3

/-- The writer's own block and buffer remade. -/
theorem Bw.remade {w' : World} {held' cur : List Value} (h : Bw B bw gb bb S row held out w) (hwr : w'.heap[bw]? = some (.cells #[.nilIface, .slice (some ⟨gb, 0, none⟩) S S, .int .i64 (held'.length : Int), .iface 38 (.pointer (some ⟨bb, 0, none⟩))] 59 (0, 0)))
    (hrow : Row w' gb cur) (hlen : cur.length = S) (htk : cur.take held'.length = held') (hk : ∀ k, k ≠ bw → k ≠ gb → w'.heap[k]? = w.heap[k]?) (h1 : ∀ v ∈ held', v.oneCell' = true) : Bw B bw gb bb S row held' out w' := by
  refine ⟨hwr, ⟨cur, hrow, hlen, htk⟩, ?_, h.pos, h.lim, h.bf.same (hk bb (fun e => h.n3 e.symm) (fun e => h.n2 e.symm)) ?_, h.n1, h.n2, h.n3, h.n4, h.n5, h.b1, h.b2, h.b3, h.b4, ?_⟩
  · have := congrArg List.length htk
    simp at this
    omega
  · rintro k hr
    refine hk k ?_ ?_
    · rintro rfl
      exact h.n5 hr
    · rintro rfl
      exact h.n4 hr
  · intro v hv
    simp only [List.mem_append] at hv
    rcases hv with hv | hv
    · exact h.one v (by simp [hv])
    · exact h1 v hv

/-- The writer emptied. -/
theorem Bw.emptied {w' : World} (h : Bw B bw gb bb S row held out w') : Bw B bw gb bb S row [] out (w'.setCell ⟨bw, 2, none⟩ (.int .i64 0)) := by
  obtain ⟨cur, hcur, hlen, htk⟩ := h.buf
  refine h.remade (cur := cur) ?_ ?_ hlen rfl ?_ (by simp)
  · rw [Lib.heap_setCell_same (i := 2) h.wr]
    rfl
  · unfold Row
    rw [Below.heap_setCell _ _ _ _ h.n1]
    exact hcur
  · intro k hk _
    rw [Below.heap_setCell _ _ _ _ hk]

set_option maxRecDepth 100000 in
set_option maxHeartbeats 4000000 in
theorem flush_some (h : Bw B bw gb bb S row held out w) (hp : 0 < held.length) (hlim : out.length ≤ 4194304) (hBs : B ≤ w.heap.size) :
    Calls Tryd.prog 29 #[.pointer (some ⟨bw, 0, none⟩)] w fun e w' => e = .returned .nilIface ∧ (∃ row', Bw B bw gb bb S row' [] (out ++ held) w') ∧ Below B w w' := by
  have c0 := h.c0
  have c1 := h.c1
  have c2 := h.c2
  have c3 := h.c3
  have hf := h.fits
  have hS := h.lim
  obtain ⟨n, hn⟩ : ∃ n, n = held.length := ⟨_, rfl⟩
  rw [← hn] at c2 hf hp
  have HN := hid hn
  have hn0 : ((n : Int) == 0) = false := by simp; omega
  have mw := method_write ⟨bb, 0, none⟩ w.drew
  have nw := nil_write ⟨bb, 0, none⟩ w.drew
  have hW : Calls Tryd.prog 39 #[.pointer (some ⟨bb, 0, none⟩), .slice (some ⟨gb, 0, none⟩) n S] w.drew fun e w' => e = .returned (.tuple #[.int .i64 (n : Int), .nilIface]) ∧ (∃ row', Bw B bw gb bb S row' held (out ++ held) w') ∧ Below B w w' := by
    obtain ⟨cur, hcur, hlen, htk⟩ := h.buf
    refine (bf_write bb n S row ⟨gb, 0, none⟩ out held w.drew h.bf (by omega) (by omega) hn.symm h.n2 ?_ (fun v hv => h.one v (by simp [hv])) (fun v hv => h.one v (by simp [hv]))).mono ?_
    · intro j v hj
      have : cur[j]? = some v := by
        rw [← htk, List.getElem?_take] at hj
        split at hj
        · exact hj
        · cases hj
      have := row_cell hcur j v this
      rw [show (⟨gb, 0, none⟩ : Addr).add j = ⟨gb, j, none⟩ by simp [Addr.add]; rintro rfl; rfl]
      exact this
    · rintro e w' ⟨he, row', hb, hr, hT⟩
      refine ⟨he, ⟨row', ?_⟩, ?_⟩
      · exact h.drew.wrote hb hr hT (fun v hv => h.one v (by simp [hv])) hBs
      · have hX : Below B w.drew w' := Turn.below hT hBs h.b3 h.b4
        exact ⟨hX.os, hX.tape, hX.output, hX.size, hX.block⟩
  have H := hid h
  clear h hn hlim
  go_enter Tryd.func29, Tryd.ntmps29
  go_wp2
  go_region_with (go_at_call 39; refine hW.mono ?_; rintro e w' ⟨rfl, hbw, hbl⟩; have c2' : w'.cell? ⟨bw, 2, none⟩ = some (.int .i64 (n : Int)) := (by obtain ⟨row', hb⟩ := hbw; rw [HN.out]; exact hb.c2))
  all_goals
    obtain ⟨row', hb⟩ := hbw
    have c2' : w'.cell? ⟨bw, 2, none⟩ = some (.int .i64 (n : Int)) := (by rw [HN.out]; exact hb.c2)
    have f2' : w'.frozen? ⟨bw, 2, none⟩ = false := frozen_of_block hb.wr 2
    have HB := hid hb
    have HBL := hid hbl
    clear hb hbl
    go_wp2
    go_ret
    refine ⟨rfl, ⟨row', HB.out.emptied⟩, ?_⟩
    exact HBL.out.setCell H.out.b1 _

/-- Flush. -/
theorem flush_any (h : Bw B bw gb bb S row held out w) (hlim : out.length ≤ 4194304) (hBs : B ≤ w.heap.size) :
    Calls Tryd.prog 29 #[.pointer (some ⟨bw, 0, none⟩)] w fun e w' => e = .returned .nilIface ∧ (∃ row', Bw B bw gb bb S row' [] (out ++ held) w') ∧ Below B w w' := by
  rcases Nat.eq_zero_or_pos held.length with h0 | h0
  · obtain rfl := List.eq_nil_of_length_eq_zero h0
    refine (flush_none h).mono ?_
    rintro e w' ⟨he, hw⟩
    refine ⟨he, ⟨row, ?_⟩, ?_⟩
    · rw [hw, List.append_nil]
      exact h
    · rw [hw]
      exact Below.refl _ _
  · exact flush_some h h0 hlim hBs
end Go.Proofs.Qxb6608669aDoor
