/-
  Seat b6608669aD: writeOutOfLine over a bufio.Writer. By an AI agent.
-/
import Derived.Test.Qxb6608669aDoorBufw
namespace Go.Proofs.Qxb6608669aDoor
open Go.RowKit

variable {B bw gb bb S : Nat} {row : Option Nat} {held out : List Value} {w : World}

theorem tb_yes (a : Addr) (W : World) : (Instr.typeAssert (.iface 50 (.pointer (some a))) 55 50 true).run Tryd.prog W = .ok (.tuple #[.pointer (some a), .bool true]) W := by kernel_rfl
theorem tb_as (a : Addr) (W : World) : (Instr.typeAssert (.iface 50 (.pointer (some a))) 55 50 false).run Tryd.prog W = .ok (.pointer (some a)) W := by kernel_rfl

theorem lt_of_some {w : World} {k : Nat} {o : Obj} (h : w.heap[k]? = some o) : k < w.heap.size := by
  rcases Nat.lt_or_ge k w.heap.size with hl | hl
  · exact hl
  · rw [Array.getElem?_eq_none hl] at h
    cases h

theorem Bf.lt {b : Nat} {row : Option Nat} {bs : List Value} (h : Bf b row bs w) : b < w.heap.size ∧ ∀ k, row = some k → k < w.heap.size := by
  obtain ⟨lr, ⟨h1, h2, h3⟩ | ⟨g, cur, h1, h2, h3, _⟩⟩ := h
  · exact ⟨lt_of_some h3, fun k hk => by rw [h1] at hk; cases hk⟩
  · refine ⟨lt_of_some h2, fun k hk => ?_⟩
    rw [h1] at hk
    injection hk with hk
    rw [← hk]
    exact lt_of_some h3

/-- Bytes appended behind what is held, in the writer's own buffer: the writer as it stood. -/
theorem Bw.behind {w' : World} {cur : List Value} (h : Bw B bw gb bb S row held out w) (hg : w.grownBy w' (some gb)) (hr : Row w' gb cur) (hlen : cur.length = S) (htk : cur.take held.length = held) : Bw B bw gb bb S row held out w' := by
  have hl := h.bf.lt
  refine ⟨?_, ⟨cur, hr, hlen, htk⟩, h.fits, h.pos, h.lim, h.bf.same ?_ ?_, h.n1, h.n2, h.n3, h.n4, h.n5, h.b1, h.b2, h.b3, h.b4, h.one⟩
  · rw [hg.block bw (lt_of_some h.wr) (by simpa using fun e => h.n1 e.symm)]
    exact h.wr
  · exact hg.block bb hl.1 (by simpa using fun e => h.n2 e.symm)
  · intro k hk
    refine hg.block k (hl.2 k hk) ?_
    rw [← hk]
    exact h.n4

set_option maxRecDepth 100000 in
set_option maxHeartbeats 1000000 in
theorem ool_byte (x : Nat) {tot : List Value} (h : Has B bw gb bb S tot w) (hlim : tot.length ≤ 1400000) (hBs : B ≤ w.heap.size) (hx : x < 128) :
    Calls Tryd.prog 30 #[.iface 50 (.pointer (some ⟨bw, 0, none⟩)), .int .u64 (x : Int)] w fun e w' => e = .returned (.tuple #[.int .i64 (ulen x : Int), .nilIface]) ∧ Has B bw gb bb S (tot ++ uc x) w' ∧ Below B w w' := by
  have d0 : decide ((x : Int) < 128) = true := decide_eq_true (by omega)
  have t1 := tb_yes ⟨bw, 0, none⟩
  have t2 := tb_as ⟨bw, 0, none⟩
  have HC := byte_any (x : Int) h (by omega) hBs
  clear hlim h hBs
  go_enter Tryd.func30, Tryd.ntmps30
  go_wp2_with fail
  refine HC.mono ?_
  rintro e w' ⟨rfl, q1, q2⟩
  have Q1 := hid q1
  have Q2 := hid q2
  clear q1 q2 HC
  go_wp2
  go_ret2
  have e1 : ulen x = 1 := by have := ulen_cases x; omega
  have e2 : uc x = [.int .u8 (x : Int)] := by unfold uc ui; rw [uv1 x hx]; rfl
  rw [e1, e2]
  exact ⟨rfl, Q1.out, Q2.out⟩

set_option maxRecDepth 100000 in
set_option maxHeartbeats 1000000 in
theorem ool_wise (x : Nat) (h : Bw B bw gb bb S row held out w) (hlim : (out ++ held).length ≤ 1400000) (hBs : B ≤ w.heap.size) (hx : 128 ≤ x) (hx1 : x < 18446744073709551616) (hs : S - held.length < 10) :
    Calls Tryd.prog 30 #[.iface 50 (.pointer (some ⟨bw, 0, none⟩)), .int .u64 (x : Int)] w fun e w' => e = .returned (.tuple #[.int .i64 (ulen x : Int), .nilIface]) ∧ Has B bw gb bb S (out ++ held ++ uc x) w' ∧ Below B w w' := by
  have d0 : decide ((x : Int) < 128) = false := decide_eq_false (by omega)
  have d1 : decide ((10 : Int) ≤ ((S - held.length : Nat) : Int)) = false := decide_eq_false (by omega)
  have t1 := tb_yes ⟨bw, 0, none⟩
  have t2 := tb_as ⟨bw, 0, none⟩
  have HA := avbuf h
  have HL := hid hlim
  have HB := hid hBs
  have HX := hid hx1
  have hS5 := h.lim
  clear hlim h hBs hx1
  go_enter Tryd.func30, Tryd.ntmps30
  go_wp2_with fail
  refine HA.mono ?_
  rintro e w1 ⟨⟨o, rfl, _⟩, hb, hbl⟩
  have HC := wise_any x HX.out hb.has (by have := HL.out; omega) (Nat.le_trans HB.out hbl.size)
  have HBL := hid hbl
  clear hb hbl HA
  go_wp2_with fail
  refine HC.mono ?_
  rintro e w2 ⟨rfl, q1, q2⟩
  have Q1 := hid q1
  have Q2 := hid q2
  clear q1 q2 HC
  go_wp2
  go_ret2
  exact ⟨rfl, Q1.out, HBL.out.trans Q2.out⟩

set_option maxRecDepth 100000 in
set_option maxHeartbeats 1000000 in
theorem ool_room (x : Nat) (h : Bw B bw gb bb S row held out w) (hlim : (out ++ held).length ≤ 1400000) (hBs : B ≤ w.heap.size) (hx : 128 ≤ x) (hx1 : x < 18446744073709551616) (hs : 10 ≤ S - held.length) :
    Calls Tryd.prog 30 #[.iface 50 (.pointer (some ⟨bw, 0, none⟩)), .int .u64 (x : Int)] w fun e w' => e = .returned (.tuple #[.int .i64 (ulen x : Int), .nilIface]) ∧ Has B bw gb bb S (out ++ held ++ uc x) w' ∧ Below B w w' := by
  have d0 : decide ((x : Int) < 128) = false := decide_eq_false (by omega)
  have d1 : decide ((10 : Int) ≤ ((S - held.length : Nat) : Int)) = true := decide_eq_true (by omega)
  have t1 := tb_yes ⟨bw, 0, none⟩
  have t2 := tb_as ⟨bw, 0, none⟩
  have HA := avbuf h
  have HL := hid hlim
  have HB := hid hBs
  have HX := hid hx1
  have HS := hid hs
  have hS5 := h.lim
  clear hlim h hBs hx1
  go_enter Tryd.func30, Tryd.ntmps30
  go_wp2_with fail
  refine HA.mono ?_
  rintro e w1 ⟨⟨o, rfl, ho⟩, hb, hbl⟩
  obtain rfl : o = held.length := ho (by have := HS.out; omega)
  have HBL := hid hbl
  have HBW := hid hb
  have HBS1 : B ≤ w1.heap.size := Nat.le_trans HB.out hbl.size
  obtain ⟨cur, hcur, hlen, htk⟩ := hb.buf
  have hcm : Came0 w1 (some ⟨gb, held.length, none⟩) gb held.length (S - held.length) cur := ⟨(fun e => by cases e), fun _ => rfl, fun _ => hcur, fun _ => by have := hb.fits; omega, fun a ha => by injection ha with ha; exact ⟨_, _, ha.symm⟩⟩
  have HC := out_any x w1 hx HX.out hcm (by omega)
  have HM := hid (And.intro HBS1 (And.intro hlen htk))
  clear hb hbl HA hcm HBS1 hcur hlen htk ho
  go_wp2_with fail
  refine HC.mono ?_
  rintro e w2 ⟨v, rfl, hP⟩
  obtain ⟨v1, v2, v3⟩ : ulen x ≤ S - held.length ∧ v = .slice (some ⟨gb, held.length, none⟩) (ulen x) (S - held.length) ∧ Row w2 gb (splice cur held.length (uc x)) := by
    have := ulen_le x
    have h10 := HS.out
    rcases hP.val with ⟨q1, q2, q3⟩ | ⟨q1, _⟩
    · exact ⟨q1, q2, q3 (by omega)⟩
    · omega
  subst v2
  have hgr : w1.grownBy w2 (some gb) := by
    have := hP.grown
    unfold rowOf at this
    rw [if_neg (by have := HS.out; omega)] at this
    exact this
  have hfit : held.length + (uc x).length ≤ cur.length := by have := HM.out.2.1; rw [uc_length]; have := HBW.out.fits; omega
  have hb2 : Bw B bw gb bb S row held out w2 := HBW.out.behind hgr v3 (by rw [length_splice _ _ _ hfit]; exact HM.out.2.1) (by rw [splice_take _ _ _ (by omega)]; exact HM.out.2.2)
  have hsrc : Src w2 (some ⟨gb, held.length, none⟩) (uc x) := by
    intro j v hj
    refine ⟨_, rfl, ?_⟩
    have hjl : j < (uc x).length := by
      rcases Nat.lt_or_ge j (uc x).length with hl | hl
      · exact hl
      · rw [List.getElem?_eq_none hl] at hj; cases hj
    have hc := row_cell v3 (held.length + j) v (by rw [splice_get _ _ _ _ hfit, if_neg (by omega), if_pos (by omega), show held.length + j - held.length = j by omega]; exact hj)
    rw [show (⟨gb, held.length, none⟩ : Addr).add j = ⟨gb, held.length + j, none⟩ by simp [Addr.add]]
    exact hc
  have hbl2 : Below B w1 w2 := ⟨hgr.os, hgr.tape, hgr.output, hgr.size, fun k hk => hgr.block k (by have := HM.out.1; omega) (by have := HBW.out.b2; intro e; injection e with e; omega)⟩
  have HD := write_any28 (some ⟨gb, held.length, none⟩) (ulen x) (S - held.length) (uc x) hb2 (uc_length x) v1 (by have := ulen_le x; omega) (.inl v1) hsrc (bc_one _) (by have := HL.out; simp at this; omega) (Nat.le_trans HM.out.1 hbl2.size) (fun a ha => by injection ha with ha; rw [← ha]; exact hb2.n2)
  have HBL2 := hid hbl2
  clear hP v1 v3 hgr hfit hb2 hsrc hbl2 HC
  go_wp2_with fail
  refine HD.mono ?_
  rintro e w3 ⟨rfl, q1, q2⟩
  have Q1 := hid q1
  have Q2 := hid q2
  clear q1 q2 HD
  go_wp2
  go_ret2
  exact ⟨rfl, Q1.out, (HBL.out.trans HBL2.out).trans Q2.out⟩

/-- writeOutOfLine over a bufio.Writer. -/
theorem ool_any (x : Nat) {tot : List Value} (h : Has B bw gb bb S tot w) (hlim : tot.length ≤ 1400000) (hBs : B ≤ w.heap.size) (hx1 : x < 18446744073709551616) :
    Calls Tryd.prog 30 #[.iface 50 (.pointer (some ⟨bw, 0, none⟩)), .int .u64 (x : Int)] w fun e w' => e = .returned (.tuple #[.int .i64 (ulen x : Int), .nilIface]) ∧ Has B bw gb bb S (tot ++ uc x) w' ∧ Below B w w' := by
  by_cases hx : x < 128
  · exact ool_byte x h hlim hBs hx
  · obtain ⟨row, held, out, h, rfl⟩ := h
    rcases Nat.lt_or_ge (S - held.length) 10 with hs | hs
    · exact ool_wise x h hlim hBs (by omega) hx1 hs
    · exact ool_room x h hlim hBs (by omega) hx1 hs
end Go.Proofs.Qxb6608669aDoor
