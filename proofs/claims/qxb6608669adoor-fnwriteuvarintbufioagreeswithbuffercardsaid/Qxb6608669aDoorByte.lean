/-
  Seat b6608669aD: bufio.Writer's WriteByte. By an AI agent.
-/
import Derived.Test.Qxb6608669aDoorFlush
namespace Go.Proofs.Qxb6608669aDoor
open Go.RowKit

variable {B bw gb bb S : Nat} {row : Option Nat} {held out : List Value} {w : World}

/-- What the writer has been handed in all. -/
def Has (B bw gb bb S : Nat) (tot : List Value) (w : World) : Prop := ∃ row held out, Bw B bw gb bb S row held out w ∧ out ++ held = tot

theorem Bw.has (h : Bw B bw gb bb S row held out w) : Has B bw gb bb S (out ++ held) w := ⟨_, _, _, h, rfl⟩

theorem Has.drew {tot : List Value} (h : Has B bw gb bb S tot w) : Has B bw gb bb S tot w.drew := by
  obtain ⟨r, he, o, hb, ht⟩ := h
  exact ⟨r, he, o, hb.drew, ht⟩

theorem below_drew {a : World} (h : Below B a w) : Below B a w.drew := ⟨h.os, h.tape, h.output, h.size, h.block⟩

theorem row_at {cur : List Value} (h : Row w gb cur) (j : Nat) (hj : j < cur.length) : ∃ v, w.cell? ⟨gb, j, none⟩ = some v := ⟨cur[j], row_cell h j _ (by simp [hj])⟩

/-- A byte laid into the writer's buffer. -/
theorem Bw.pushed {v : Value} (h : Bw B bw gb bb S row held out w) (hlt : held.length < S) (hv : v.oneCell' = true) :
    Bw B bw gb bb S row (held ++ [v]) out ((w.setCell ⟨gb, held.length, none⟩ v).setCell ⟨bw, 2, none⟩ (.int .i64 ((held.length + 1 : Nat) : Int))) := by
  obtain ⟨cur, hcur, hlen, htk⟩ := h.buf
  refine h.remade (cur := cur.set held.length v) ?_ ?_ (by simp [hlen]) ?_ ?_ ?_
  · have hb : (w.setCell ⟨gb, held.length, none⟩ v).heap[bw]? = _ := (Below.heap_setCell w ⟨gb, held.length, none⟩ v bw (fun e => h.n1 e.symm)).trans h.wr
    rw [Lib.heap_setCell_same (i := 2) hb]
    simp
  · unfold Row
    rw [Below.heap_setCell _ _ _ _ h.n1, Lib.heap_setCell_same (i := held.length) hcur]
    simp
  · rw [List.length_append, List.length_singleton, List.take_set]
    have : cur.take (held.length + 1) = held ++ [cur[held.length]'(by omega)] := by
      rw [List.take_add_one, htk]
      simp [show held.length < cur.length by omega]
    rw [this]
    simp
  · intro k hk hg
    rw [Below.heap_setCell _ _ _ _ hk, Below.heap_setCell _ _ _ _ hg]
  · intro u hu
    simp only [List.mem_append, List.mem_singleton] at hu
    rcases hu with hu | rfl
    · exact h.one u (by simp [hu])
    · exact hv

theorem available' (h : Bw B bw gb bb S row held out w) : Calls Tryd.prog 32 #[.pointer (some ⟨bw, 0, none⟩)] w fun e w' => e = .returned (.int .i64 ((S - held.length : Nat) : Int)) ∧ Bw B bw gb bb S row held out w' ∧ Below B w w' := by
  refine (available h).mono ?_
  rintro e w' ⟨he, k, hw⟩
  refine ⟨he, ?_, ?_⟩
  · rw [hw]; exact h.drewN k
  · rw [hw]; exact ⟨rfl, rfl, rfl, Nat.le_refl _, fun _ _ => rfl⟩

/-- What the walk wants of the writer, ahead of laying a byte. -/
structure Lays (w : World) (bw gb n S : Nat) (v : Value) : Prop where
  c1 : w.cell? ⟨bw, 1, none⟩ = some (.slice (some ⟨gb, 0, none⟩) S S)
  c2 : w.cell? ⟨bw, 2, none⟩ = some (.int .i64 (n : Int))
  cu : ∃ u, w.cell? ⟨gb, n, none⟩ = some u
  fu : w.frozen? ⟨gb, n, none⟩ = false
  c2' : (w.setCell ⟨gb, n, none⟩ v).cell? ⟨bw, 2, none⟩ = some (.int .i64 (n : Int))
  f2' : (w.setCell ⟨gb, n, none⟩ v).frozen? ⟨bw, 2, none⟩ = false

theorem Bw.lays (v : Value) (h : Bw B bw gb bb S row held out w) (hlt : held.length < S) : Lays w bw gb held.length S v := by
  obtain ⟨cur, hcur, hlen, _⟩ := h.buf
  have hbw : (w.setCell ⟨gb, held.length, none⟩ v).heap[bw]? = _ := (Below.heap_setCell w ⟨gb, held.length, none⟩ _ bw (fun e => h.n1 e.symm)).trans h.wr
  exact ⟨h.c1, h.c2, row_at hcur _ (by omega), frozen_of_block hcur _, by rw [cell_of_block hbw]; rfl, frozen_of_block hbw 2⟩

set_option maxRecDepth 100000 in
set_option maxHeartbeats 4000000 in
theorem byte_room (z : Int) (h : Bw B bw gb bb S row held out w) (hlt : held.length < S) :
    Calls Tryd.prog 34 #[.pointer (some ⟨bw, 0, none⟩), .int .u8 z] w fun e w' => e = .returned .nilIface ∧ Has B bw gb bb S (out ++ held ++ [.int .u8 z]) w' ∧ Below B w w' := by
  have c0 := h.c0
  have HA := available' h
  have hl := h.lim
  have hwn : IntKind.i64.wrap ((held.length : Int) + 1) = ((held.length + 1 : Nat) : Int) := by rw [IntKind.wrap_i64]; omega
  have hwm : ((held.length + 1 : Nat) : Int) = (held.length : Int) + 1 := by omega
  have HL := hid hlt
  have ht : decide (((S - held.length : Nat) : Int) ≤ 0) = false := by simp; omega
  clear h
  go_enter Tryd.func34, Tryd.ntmps34
  go_wp2_with fail
  refine HA.mono ?_
  rintro e w' ⟨rfl, hb, hbl⟩
  have L := hb.lays (.int .u8 z) HL.out
  have HP := hid (hb.pushed (v := .int .u8 z) hlt rfl)
  have HB := hid (And.intro hb.b1 hb.b2)
  have HBL := hid hbl
  obtain ⟨c1, c2, ⟨u, cu⟩, fu, c2', f2'⟩ := L
  clear HA hb hbl HL c0
  go_wp2
  go_region
  go_wp2
  go_ret
  refine ⟨rfl, ?_, ?_⟩
  · have := HP.out.has
    rw [List.append_assoc, ← hwm]
    exact this.drew
  · exact below_drew ((HBL.out.setCell (p := ⟨gb, held.length, none⟩) HB.out.2 _).setCell (p := ⟨bw, 2, none⟩) HB.out.1 _)

set_option maxRecDepth 100000 in
set_option maxHeartbeats 4000000 in
theorem byte_full (z : Int) (h : Bw B bw gb bb S row held out w) (hlt : held.length = S) (hlim : out.length ≤ 4194304) (hBs : B ≤ w.heap.size) :
    Calls Tryd.prog 34 #[.pointer (some ⟨bw, 0, none⟩), .int .u8 z] w fun e w' => e = .returned .nilIface ∧ Has B bw gb bb S (out ++ held ++ [.int .u8 z]) w' ∧ Below B w w' := by
  have c0 := h.c0
  have HA := available' h
  have hl := h.lim
  have HS := hid h.pos
  have HLIM := hid hlim
  have HBS := hid hBs
  have HL := hid hlt
  have ht : decide (((S - held.length : Nat) : Int) ≤ 0) = true := by simp; omega
  clear h hlim hBs
  go_enter Tryd.func34, Tryd.ntmps34
  go_wp2_with fail
  refine HA.mono ?_
  rintro e w' ⟨rfl, hb, hbl⟩
  have HF := flush_any hb HLIM.out (Nat.le_trans HBS.out hbl.size)
  have HBL := hid hbl
  clear HA hb hbl
  go_wp2_with fail
  refine HF.mono ?_
  rintro e w2 ⟨rfl, ⟨row', hb⟩, hbl⟩
  have L := hb.lays (.int .u8 z) (HS.out)
  have HP := hid (hb.pushed (v := .int .u8 z) (HS.out) rfl)
  have HB := hid (And.intro hb.b1 hb.b2)
  have HBL2 := hid hbl
  rw [List.length_nil] at L HP
  obtain ⟨c1, c2, ⟨u, cu⟩, fu, c2', f2'⟩ := L
  have hS0 : 0 < S := HS.out
  clear HF hb hbl c0
  go_wp2
  go_region
  go_wp2
  go_ret
  refine ⟨rfl, ?_, ?_⟩
  · have := HP.out.has
    exact this.drew
  · exact below_drew (((HBL.out.trans HBL2.out).setCell (p := ⟨gb, 0, none⟩) HB.out.2 _).setCell (p := ⟨bw, 2, none⟩) HB.out.1 _)

/-- WriteByte. -/
theorem byte_any (z : Int) {tot : List Value} (h : Has B bw gb bb S tot w) (hlim : tot.length ≤ 4194304) (hBs : B ≤ w.heap.size) :
    Calls Tryd.prog 34 #[.pointer (some ⟨bw, 0, none⟩), .int .u8 z] w fun e w' => e = .returned .nilIface ∧ Has B bw gb bb S (tot ++ [.int .u8 z]) w' ∧ Below B w w' := by
  obtain ⟨row, held, out, h, rfl⟩ := h
  have := h.fits
  rcases Nat.lt_or_ge held.length S with hl | hl
  · exact byte_room z h hl
  · exact byte_full z h (by omega) (by simp at hlim; omega) hBs
end Go.Proofs.Qxb6608669aDoor
