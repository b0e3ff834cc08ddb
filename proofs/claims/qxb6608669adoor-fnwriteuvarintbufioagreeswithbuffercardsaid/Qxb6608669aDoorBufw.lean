/-
  Seat b6608669aD: bufio.Writer's Write. By an AI agent.
-/
import Derived.Test.Qxb6608669aDoorWise
namespace Go.Proofs.Qxb6608669aDoor
open Go.RowKit

variable {B bw gb bb S : Nat} {row : Option Nat} {held out : List Value} {w : World}

/-- The bytes cs lie at ao. -/
def Src (w : World) (ao : Option Addr) (cs : List Value) : Prop := ∀ j v, cs[j]? = some v → ∃ a, ao = some a ∧ w.cell? (a.add j) = some v

/-- The last copy: what is left goes into the writer's buffer. -/
theorem Bw.copied {rest : List Value} {ao : Option Addr} {l c : Nat} (h : Bw B bw gb bb S row held out w) (hl : rest.length = l) (hfit : held.length + l ≤ S) (hsrc : Src w ao rest) (h1 : ∀ v ∈ rest, v.oneCell' = true) :
    ∃ w2 : World, (∀ o, (held.length < S → o = held.length) → (Builtin.copy_ #[22, 22] 3 #[.slice (some ⟨gb, o, none⟩) (S - held.length) (S - held.length), .slice ao l c]).run Tryd.prog w = .ok (goInt l) w2) ∧
      w2.cell? ⟨bw, 2, none⟩ = some (.int .i64 (held.length : Int)) ∧ w2.frozen? ⟨bw, 2, none⟩ = false ∧
      Bw B bw gb bb S row (held ++ rest) out (w2.setCell ⟨bw, 2, none⟩ (.int .i64 ((held.length : Int) + (l : Int)))) ∧ Below B w w2 := by
  rcases Nat.eq_zero_or_pos l with h0 | h0
  · obtain rfl : rest = [] := List.eq_nil_of_length_eq_zero (by omega)
    refine ⟨w, fun o _ => ?_, h.c2, frozen_of_block h.wr 2, ?_, Below.refl _ _⟩
    · rw [h0]
      exact run_copy_none (P := Tryd.prog) w 22 22 3 5 _ ao _ _ 0 c Tryd.underlying22 Tryd.size5 (Nat.min_eq_left (Nat.zero_le _))
    · obtain ⟨cur, hcur, hlen, htk⟩ := h.buf
      refine h.remade (cur := cur) ?_ ?_ hlen (by simpa using htk) ?_ (fun v hv => h.one v (by simp at hv; simp [hv]))
      · rw [Lib.heap_setCell_same (i := 2) h.wr, h0]
        simp
      · unfold Row
        rw [Below.heap_setCell _ _ _ _ h.n1]
        exact hcur
      · intro k hk _
        rw [Below.heap_setCell _ _ _ _ hk]
  · obtain ⟨a, rfl⟩ : ∃ a, ao = some a := by
      obtain ⟨a, ha, _⟩ := hsrc 0 (rest[0]'(by omega)) (by simp)
      exact ⟨a, ha⟩
    have hsrc' : ∀ j v, rest[j]? = some v → w.cell? (a.add j) = some v := by
      intro j v hj
      obtain ⟨x, hx, hc⟩ := hsrc j v hj
      injection hx with hx
      rw [hx]
      exact hc
    obtain ⟨cur, hcur, hlen, htk⟩ := h.buf
    have hcp := run_copy_row (P := Tryd.prog) w 22 22 3 5 gb held.length (S - held.length) (S - held.length) a l c cur.toArray 5 rest Tryd.underlying22 Tryd.size5 hcur (by rw [hl]; exact (Nat.min_eq_left (by omega)).symm) hsrc' (by rw [hl]; simp; omega) h1
    rw [hl, List.toList_toArray, htk] at hcp
    have hlen2 : (held ++ rest ++ cur.drop (held.length + l)).length = S := by simp; omega
    obtain ⟨w2, hw2⟩ : ∃ w2, w2 = w.setRow gb (held ++ rest ++ cur.drop (held.length + l)).toArray := ⟨_, rfl⟩
    have hb2 : w2.heap[bw]? = some (.cells #[.nilIface, .slice (some ⟨gb, 0, none⟩) S S, .int .i64 (held.length : Int), .iface 38 (.pointer (some ⟨bb, 0, none⟩))] 59 (0, 0)) := by rw [hw2]; exact (setRow_other _ _ _ _ (fun e => h.n1 e.symm)).trans h.wr
    have hr2 : Row w2 gb (held ++ rest ++ cur.drop (held.length + l)) := by rw [hw2]; exact setRow_heap w gb _ _ 5 (0, 0) hcur
    refine ⟨w2, fun o ho => ?_, by rw [cell_of_block hb2]; rfl, frozen_of_block hb2 2, ?_, ?_⟩
    · rw [ho (by omega), hcp, hw2]
    · refine h.remade (cur := held ++ rest ++ cur.drop (held.length + l)) ?_ ?_ hlen2 ?_ ?_ ?_
      · rw [Lib.heap_setCell_same (i := 2) hb2]
        simp [hl]
      · unfold Row
        rw [Below.heap_setCell _ _ _ _ h.n1]
        exact hr2
      · rw [List.take_left' rfl]
      · intro k hk hg
        rw [Below.heap_setCell _ _ _ _ hk, hw2, setRow_other _ _ _ _ hg]
      · intro v hv
        simp only [List.mem_append] at hv
        rcases hv with hv | hv
        · exact h.one v (by simp [hv])
        · exact h1 v hv
    · rw [hw2]
      exact ⟨rfl, rfl, rfl, by rw [setRow_size]; exact Nat.le_refl _, fun k hk => setRow_other _ _ _ _ (by have := h.b2; omega)⟩

theorem Bw.errNil (h : Bw B bw gb bb S row held out w) : Bw B bw gb bb S row held out (w.setCell ⟨bw, 0, none⟩ .nilIface) := by
  obtain ⟨cur, hcur, hlen, htk⟩ := h.buf
  refine h.remade (cur := cur) ?_ ?_ hlen htk ?_ (fun v hv => h.one v (by simp [hv]))
  · rw [Lib.heap_setCell_same (i := 0) h.wr]
    simp
  · unfold Row
    rw [Below.heap_setCell _ _ _ _ h.n1]
    exact hcur
  · intro k hk _
    rw [Below.heap_setCell _ _ _ _ hk]

theorem Src.drew {ao : Option Addr} {cs : List Value} (h : Src w ao cs) : Src w.drew ao cs := h

set_option maxRecDepth 100000 in
set_option maxHeartbeats 4000000 in
theorem write_any28 (ao : Option Addr) (l c : Nat) (cs : List Value) (h : Bw B bw gb bb S row held out w) (hl : cs.length = l) (hlc : l ≤ c) (hL : l ≤ 2097152) (hc : l ≤ S - held.length ∨ held = []) (hsrc : Src w ao cs) (h1 : ∀ v ∈ cs, v.oneCell' = true) (hlim : out.length ≤ 1500000) (hBs : B ≤ w.heap.size)
    (hab : ∀ a, ao = some a → a.block ≠ bb) :
    Calls Tryd.prog 28 #[.pointer (some ⟨bw, 0, none⟩), .slice ao l c] w fun e w' => e = .returned (.tuple #[.int .i64 (l : Int), .nilIface]) ∧ Has B bw gb bb S (out ++ held ++ cs) w' ∧ Below B w w' := by
  have H := hid h
  have HC := hid hc
  have HSRC := hid hsrc
  have H1 := hid h1
  have HLIM := hid hlim
  have HBS := hid hBs
  have HAB := hid hab
  have HL := hid hl
  have HLC := hid hlc
  have HLL := hid hL
  clear h hc hsrc h1 hlim hBs hab hl hlc hL
  go_enter Tryd.func28, Tryd.ntmps28
  go_wp2
  go_loopw [1, 4] (fun p n wr => ∃ (ao' : Option Addr) (l' c' : Nat) (row' : Option Nat) (held' out' rest : List Value), p = .slice ao' l' c' ∧ n = .int .i64 ((l - l' : Nat) : Int) ∧ l' ≤ l ∧ l' ≤ c' ∧ rest.length = l' ∧ Hid (Bw B bw gb bb S row' held' out' wr) ∧ Hid (Src wr ao' rest) ∧ Hid (∀ v ∈ rest, v.oneCell' = true) ∧
      Hid (out' ++ held' ++ rest = out ++ held ++ cs) ∧ Hid (Below B w wr) ∧ Hid (l' ≤ S - held'.length ∨ held' = []) ∧ Hid (out'.length ≤ 4194304) ∧ Hid (∀ a, ao' = some a → a.block ≠ bb)) (fun p _ _ => match p with | .slice _ l' _ => l' | _ => 0)
  case atStart =>
    exact ⟨ao, l, c, row, held, out, cs, rfl, by simp, Nat.le_refl _, HLC.out, HL.out, H, HSRC, H1, rfl, Below.refl _ _, HC, hid (by have := HLIM.out; omega), HAB⟩
  case round =>
    obtain ⟨ao', l', c', row', held', out', rest, rfl, rfl, hll, hlc', hrl, hB, hS, h1, htot, hbl, hcc, hlm, hab⟩ := hrel
    have hb0 := hB.out
    have hfits := hb0.fits
    have hS5 := hb0.lim
    have HA := available hb0
    have HLL' := HLL.out
    clear hb0
    obtain ⟨n, hn⟩ : ∃ n, n = held'.length := ⟨_, rfl⟩
    rw [← hn] at HA hfits
    have HN := hid hn
    clear hn
    by_cases hle : l' ≤ S - n
    · have ht : decide (((S - n : Nat) : Int) < (l' : Int)) = false := by simp; omega
      go_wp2_with fail
      refine HA.mono ?_
      rintro e w1 ⟨rfl, k, hw⟩
      have hb : Bw B bw gb bb S row' held' out' w1 := by rw [hw]; exact hB.out.drewN k
      have hs : Src w1 ao' rest := by rw [hw]; exact hS.out
      have hbl1 : Below B w w1 := by rw [hw]; have := hbl.out; exact ⟨this.os, this.tape, this.output, this.size, this.block⟩
      have c0 := hb.c0
      have c1 := hb.c1
      have c2 := hb.c2
      obtain ⟨w2, hcp, c2', f2', hB2, hbl2⟩ := hb.drew.copied (c := c') hrl (by have := HN.out; omega) hs.drew h1.out
      have HBL := hid (hbl1.trans (⟨hbl2.os, hbl2.tape, hbl2.output, hbl2.size, hbl2.block⟩ : Below B w1 w2))
      have HB2 := hid hB2
      have HB1 := hid hb.b1
      have hcp1 := hcp (if S = n then 0 else n) (by have := HN.out; intro; split <;> omega)
      rw [← HN.out] at c2 c2' HB2 hcp1
      clear hw hb hs hbl1 hbl2 hB2 hcp HA hB hS
      have hX := HLL'
      have hsum : ((l - l' : Nat) : Int) + (l' : Int) = (l : Int) := by omega
      by_cases hSn : S = n
      · rw [if_pos hSn] at hcp1
        rw [show S - n = 0 by omega] at hcp1
        go_wp2
        go_region
        go_wp2
        go_ret2
        refine ⟨?_, ?_, HBL.out.setCell (p := ⟨bw, 2, none⟩) HB1.out _⟩
        · rfl
        · have := HB2.out.has
          rw [← List.append_assoc, htot.out] at this
          first
            | exact this
            | (rw [hSn] at this ⊢; exact this)
            | (rw [← hSn] at this ⊢; exact this)
      · rw [if_neg hSn] at hcp1
        go_wp2
        go_region
        go_wp2
        go_ret2
        refine ⟨?_, ?_, HBL.out.setCell (p := ⟨bw, 2, none⟩) HB1.out _⟩
        · rfl
        · have := HB2.out.has
          rw [← List.append_assoc, htot.out] at this
          exact this
    · have hh : held' = [] := by
        rcases hcc.out with h | h
        · have := HN.out
          omega
        · exact h
      obtain rfl : n = 0 := by rw [HN.out, hh]; rfl
      subst hh
      have ht : decide (((S - 0 : Nat) : Int) < (l' : Int)) = true := by simp; omega
      have hS1 := hB.out.pos
      obtain ⟨a, rfl⟩ : ∃ a, ao' = some a := by
        obtain ⟨a, ha, _⟩ := hS.out 0 (rest[0]'(by omega)) (by simp)
        exact ⟨a, ha⟩
      go_wp2_with fail
      refine HA.mono ?_
      rintro e w1 ⟨rfl, k, hw⟩
      have hb : Bw B bw gb bb S row' [] out' w1 := by rw [hw]; exact hB.out.drewN k
      have hs : ∀ j v, rest[j]? = some v → w1.cell? (a.add j) = some v := by
        intro j v hj
        rw [hw]
        obtain ⟨x, hx, hc⟩ := hS.out j v hj
        injection hx with hx
        rw [hx]
        exact hc
      have hbl1 : Below B w w1 := by rw [hw]; have := hbl.out; exact ⟨this.os, this.tape, this.output, this.size, this.block⟩
      have c0 := hb.c0
      have c3 := hb.c3
      have HBU := buffered hb
      have mw := method_write ⟨bb, 0, none⟩ w1
      have nw := nil_write ⟨bb, 0, none⟩ w1
      have HBS1 : B ≤ w1.heap.size := Nat.le_trans HBS.out hbl1.size
      have hW : Calls Tryd.prog 39 #[.pointer (some ⟨bb, 0, none⟩), .slice (some a) l' c'] w1 fun e w' => e = .returned (.tuple #[.int .i64 (l' : Int), .nilIface]) ∧ (∃ row', Bw B bw gb bb S row' [] (out' ++ rest) w') ∧ Below B w w' := by
        refine (bf_write bb l' c' row' a out' rest w1 hb.bf (by omega) (by have := hlm.out; omega) hrl (hab.out a rfl) hs (fun v hv => hb.one v (by simp [hv])) h1.out).mono ?_
        rintro e w' ⟨he, row2, hbf, hr, hT⟩
        exact ⟨he, ⟨row2, hb.wrote hbf hr hT h1.out HBS1⟩, hbl1.trans (Turn.below hT HBS1 hb.b3 hb.b4)⟩
      rw [List.length_nil] at HBU
      clear hw hb hs hbl1 HA hB hS
      have HBS1' := hid HBS1
      clear HBS1
      go_wp2_with fail
      refine HBU.mono ?_
      rintro e w2 ⟨rfl, hw⟩
      rw [hw]
      clear hw w2
      go_wp2_with fail
      refine hW.mono ?_
      rintro e w2 ⟨rfl, ⟨row2, hb2⟩, hbl2⟩
      have c0' := hb2.c0
      have f0' := frozen_of_block hb2.wr 0
      have HB2 := hid hb2
      have HBL2 := hid hbl2
      clear hb2 hbl2 hW HBU mw nw c0 c3
      have hX := HLL'
      go_wp2
      refine ⟨⟨_, 0, c' - l', row2, [], out' ++ rest, [], rfl, ?_, Nat.zero_le _, Nat.zero_le _, rfl, ?_, ?_, ?_, ?_, ?_, .inr rfl, ?_, ?_⟩, ?_⟩
      · rw [show ((l - l' : Nat) : Int) + (l' : Int) = ((l - 0 : Nat) : Int) by omega]
      · exact HB2.out.errNil
      · exact fun j v hj => by simp at hj
      · exact fun v hv => by simp at hv
      · have := htot.out
        unfold Hid
        simpa using this
      · exact HBL2.out.setCell (p := ⟨bw, 0, none⟩) HB2.out.b1 _
      · have e1 := congrArg List.length htot.out
        have e2 := HC.out
        have e3 := HLIM.out
        have e4 := HL.out
        have e5 := H.out.fits
        unfold Hid
        simp at e1 ⊢
        omega
      · intro x hx
        split at hx
        · injection hx with hx
          rw [← hx]
          exact hab.out a rfl
        · injection hx with hx
          rw [← hx, Lib.block_add]
          exact hab.out a rfl
      · show 0 < l'
        omega
end Go.Proofs.Qxb6608669aDoor
