/-
  Seat b6608669aD: ZZWriteUvarintBufio. By an AI agent.
-/
import Derived.Test.Qxb6608669aDoorNew
namespace Go.Proofs.Qxb6608669aDoor
open Go.RowKit

theorem Bf.isBuffer {B b : Nat} {row : Option Nat} {bs : List Value} {w : World} (h : Bf b row bs w) (hB : B ≤ b) (hr : ∀ k, row = some k → B ≤ k) : Lib.IsBuffer 49 5 B b bs w := by
  obtain ⟨lr, ⟨h1, h2, h3⟩ | ⟨g, cur, h1, h2, h3, h4, h5, h6, h7⟩⟩ := h
  · subst h2
    exact ⟨hB, _, lr, h3, World.ownsRow_nil _ _ _ _, by simp [Value.ownBlock]⟩
  · refine ⟨hB, _, lr, h2, ?_, ?_⟩
    · exact ⟨by simp, .inr ⟨g, cur.length, cur.toArray, rfl, hr g h1, h3, h4, h5, by simp, by simpa using h6⟩⟩
    · simpa [Value.ownBlock] using h7

theorem lies_src {w : World} {ao : Option Addr} {zs : List Int} (h : Lies w ao zs) : Src w ao (bc zs) := by
  intro j v hj
  have hjl : j < zs.length := by
    rcases Nat.lt_or_ge j zs.length with hl | hl
    · exact hl
    · rw [List.getElem?_eq_none (by rw [bc_length]; exact hl)] at hj; cases hj
  obtain ⟨x, hx, _⟩ := h j hjl
  subst hx
  exact ⟨x, rfl, Lies.src h j v hj⟩

set_option maxRecDepth 100000 in
set_option maxHeartbeats 2000000 in
theorem zz_bufio (z : Int) (ao : Option Addr) (l c x : Nat) (zs : List Int) (w : World) (hz : z ≤ 65536) (hs : Lies w ao zs) (hl : zs.length = l) (hlc : l ≤ c) (hL : l ≤ 1048576) (hab : ∀ a, ao = some a → a.block < w.heap.size) (hx1 : x < 18446744073709551616) :
    Calls Tryd.prog 16 #[.int .i64 z, .slice ao l c, .int .u64 (x : Int)] w fun e w' => ∃ v, e = .returned (.tuple #[v, .int .i64 (ulen x : Int), .bool false]) ∧ w'.ownsRow w.heap.size 5 1 v (l + ulen x) (bc (zs ++ ui x)) ∧ Below w.heap.size w w' := by
  obtain ⟨B, hB⟩ : ∃ B, B = w.heap.size := ⟨_, rfl⟩
  have HS := hid hs
  have HX := hid hx1
  have HL := hid (And.intro hl (And.intro hlc hL))
  have HAB := hid hab
  have HZ := hid hz
  clear hz hs hl hlc hL hab hx1
  rw [← hB]
  go_enter Tryd.func16, Tryd.ntmps16
  go_wp2_with fail
  have hb0 : (w.alloc (.cells #[.slice none 0 0, .int .i64 0, .int .i8 0] 49)).heap[w.heap.size]? = some (.cells #[.slice none 0 0, .int .i64 0, .int .i8 0] 49 (0, 0)) := alloc_at _ _
  refine (new_any B w.heap.size z _ HZ.out hb0 (by omega)).mono ?_
  rintro e w1 ⟨bw, gb, S, rfl, H1⟩
  have hbl1 : Below B w w1 := ((Below.refl B w).alloc (by omega) _).trans H1.out.2
  have hs1 : Lies w1 ao zs := by
    intro j hj
    obtain ⟨a, ha, hc⟩ := HS.out j hj
    refine ⟨a, ha, ?_⟩
    rw [hbl1.cell (by rw [Lib.block_add, hB]; exact HAB.out a ha)]
    exact hc
  have HW := write_any28 ao l c (bc zs) H1.out.1 (by rw [bc_length]; exact HL.out.1) HL.out.2.1 (by have := HL.out; omega) (.inr rfl) (lies_src hs1) (bc_one _) (by simp) (by rw [hB]; exact hbl1.size) (fun a ha => by have := HAB.out a ha; omega)
  have HBL1 := hid hbl1
  clear hb0 hbl1 hs1
  go_wp2_with fail
  refine HW.mono ?_
  rintro e w2 ⟨rfl, hh2, hbl2⟩
  have HO := ool_any x hh2 (by simp [bc_length]; have := HL.out; omega) (by have h1 := HBL1.out.size; have h2 := hbl2.size; omega) HX.out
  have HBL2 := hid (HBL1.out.trans hbl2)
  clear HW hh2 hbl2
  go_wp2_with (go_at_call 24; go_in)
  refine HO.mono ?_
  rintro e w3 ⟨rfl, ⟨row3, held3, out3, hb3, ht3⟩, hbl3⟩
  have hlen3 : out3.length ≤ 4194304 := by
    have e1 := congrArg List.length ht3
    have := ulen_le x
    have := HL.out
    simp [bc_length, uc_length] at e1
    omega
  have HF := flush_any hb3 hlen3 (by have h2 := HBL2.out.size; have h3 := hbl3.size; omega)
  rw [ht3] at HF
  have HBL3 := hid (HBL2.out.trans hbl3)
  clear HO hb3 ht3 hbl3 hlen3
  go_wp2_with fail
  refine HF.mono ?_
  rintro e w4 ⟨rfl, ⟨row4, hb4⟩, hbl4⟩
  have HI : Lib.IsBuffer 49 5 B w.heap.size (bc zs ++ uc x) w4.drew := by
    have h0 : Lib.IsBuffer 49 5 B w.heap.size (bc zs ++ uc x) w4 := by
      have := hb4.bf.isBuffer hb4.b3 hb4.b4
      simpa using this
    exact h0
  have HBL4 := hid (HBL3.out.trans hbl4)
  clear HF hb4 hbl4
  go_wp2
  go_region_with (go_at_call 25; refine (buf_bytes B w.heap.size (bc zs ++ uc x) _ HI).mono ?_; rintro e w5 ⟨v2, rfl, q3, k2, hw2⟩)
  all_goals
    have HW2 := hid hw2
    clear hw2
    go_wp2
    go_ret3
    refine ⟨v2, rfl, ?_, ?_⟩
    · have e1 : (bc zs ++ uc x).length = l + ulen x := by rw [List.length_append, bc_length, HL.out.1, uc_length]
      rw [e1, HW2.out] at q3
      rw [bc_append]
      exact q3
    · have h2 := HBL4.out
      exact ⟨h2.os, h2.tape, h2.output, h2.size, h2.block⟩
end Go.Proofs.Qxb6608669aDoor
