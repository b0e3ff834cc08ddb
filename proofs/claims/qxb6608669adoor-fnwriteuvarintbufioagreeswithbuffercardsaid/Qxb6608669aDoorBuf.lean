/-
  Seat b6608669aD: a bytes.Buffer: AvailableBuffer, writeOutOfLine at it, ZZWriteUvarintBuffer. By an AI agent.
-/
import Derived.Test.Qxb6608669aDoorOut2
import Derived.Lib.BufferWrite
namespace Go.Proofs.Qxb6608669aDoor
open Go.RowKit

theorem cell_of_block {w : World} {b : Nat} {cs : Array Value} {T : TypeId} {fr : Nat × Nat} (h : w.heap[b]? = some (.cells cs T fr)) (i : Nat) : w.cell? ⟨b, i, none⟩ = cs[i]? := by simp [World.cell?, h]

/-- What is left of the room, and what links it to the buffer. -/
def Avail (B b : Nat) (bs : List Value) (w : World) (ao : Option Addr) (g c : Nat) (cur : List Value) : Prop :=
  B ≤ b ∧ ∃ lr, (bs = [] ∧ w.heap[b]? = some (.cells #[.slice none 0 0, .int .i64 0, .int .i8 lr] 49 (0, 0)) ∧ ao = none ∧ c = 0) ∨
    (w.heap[b]? = some (.cells #[.slice (some ⟨g, 0, none⟩) bs.length cur.length, .int .i64 0, .int .i8 lr] 49 (0, 0)) ∧ B ≤ g ∧ Row w g cur ∧ bs.length ≤ cur.length ∧ cur.length ≤ maxLen ∧ cur.take bs.length = bs ∧ g ≠ b ∧
      c = cur.length - bs.length ∧ ao = if c = 0 then some ⟨g, 0, none⟩ else some ⟨g, bs.length, none⟩)

theorem Avail.came {B b : Nat} {bs : List Value} {w : World} {ao : Option Addr} {g c : Nat} {cur : List Value} (h : Avail B b bs w ao g c cur) : Came0 w ao g bs.length c cur ∧ c ≤ 9223372036854775807 := by
  obtain ⟨_, lr, ⟨_, _, rfl, rfl⟩ | ⟨_, _, hr, hl, hm, _, _, hc, ha⟩⟩ := h
  · exact ⟨⟨fun _ => rfl, fun h => absurd h (by omega), fun h => absurd h (by omega), fun h => absurd h (by omega), fun a ha => by cases ha⟩, by omega⟩
  · refine ⟨⟨fun h => ?_, fun h => ?_, fun _ => hr, fun _ => by omega, fun a h => ?_⟩, by unfold maxLen at hm; omega⟩
    · rw [ha] at h; split at h <;> cases h
    · rw [ha, if_neg (by omega)]
    · rw [ha] at h
      split at h
      · exact ⟨_, _, (Option.some.inj h).symm⟩
      · exact ⟨_, _, (Option.some.inj h).symm⟩

theorem Avail.ne {B b : Nat} {bs : List Value} {w : World} {ao : Option Addr} {g c : Nat} {cur : List Value} (h : Avail B b bs w ao g c cur) (hc : 0 < c) : g ≠ b := by
  obtain ⟨_, lr, ⟨_, _, _, rfl⟩ | ⟨_, _, _, _, _, _, hgb, _⟩⟩ := h
  · omega
  · exact hgb
theorem Avail.lt {B b : Nat} {bs : List Value} {w : World} {ao : Option Addr} {g c : Nat} {cur : List Value} (h : Avail B b bs w ao g c cur) : b < w.heap.size := by
  obtain ⟨_, lr, ⟨_, hb, _⟩ | ⟨hb, _⟩⟩ := h
  · exact Lib.lt_of_heap hb
  · exact Lib.lt_of_heap hb

/-- The buffer is still the buffer it was once bytes have been appended to its room. -/
theorem Avail.still {B b : Nat} {bs : List Value} {w w' : World} {ao : Option Addr} {g c : Nat} {cur : List Value} {v : Value} {m : Nat} {ks : List Value} (h : Avail B b bs w ao g c cur) (hB : B ≤ w.heap.size) (hA : App w ao g bs.length c cur w' v m ks) :
    Lib.IsBuffer 49 5 B b bs w' ∧ Below B w w' := by
  obtain ⟨hBb, lr, ⟨rfl, hb, rfl, rfl⟩ | ⟨hb, hBg, hr, hl, hm, ht, hgb, hc, ha⟩⟩ := h
  · have hg := hA.grown
    unfold rowOf at hg
    rw [if_pos rfl] at hg
    refine ⟨⟨hBb, .slice none 0 0, lr, ?_, World.ownsRow_nil _ _ _ _, by simp [Value.ownBlock]⟩, ⟨hg.os, hg.tape, hg.output, hg.size, fun k hk => hg.block k (by omega) (by simp)⟩⟩
    rw [hg.block b (Lib.lt_of_heap hb) (by simp)]; exact hb
  · have hrow : ∃ cur', Row w' g cur' ∧ cur'.length = cur.length ∧ cur'.take bs.length = cur.take bs.length := by
      by_cases h0 : c = 0
      · have hg := hA.grown
        unfold rowOf at hg
        rw [if_pos h0] at hg
        exact ⟨cur, hr.kept hg (by simp), rfl, rfl⟩
      · exact hA.row (by omega)
    obtain ⟨cur', r, e1, e2⟩ := hrow
    have hg := hA.grown
    have hne : ∀ k, k ≠ g → some k ≠ rowOf c g := by
      intro k hk
      unfold rowOf
      split
      · simp
      · simpa using hk
    refine ⟨⟨hBb, .slice (some ⟨g, 0, none⟩) bs.length cur.length, lr, ?_, ⟨by simp, .inr ⟨g, cur.length, cur'.toArray, rfl, hBg, r, hl, hm, by simp [e1], ?_⟩⟩, by simp [Value.ownBlock]; omega⟩, ⟨hg.os, hg.tape, hg.output, hg.size, fun k hk => hg.block k (by omega) (hne k (by omega))⟩⟩
    · rw [hg.block b (Lib.lt_of_heap hb) (hne b (by omega))]; exact hb
    · rw [Nat.mul_one, List.toList_toArray, e2, ht]

set_option maxRecDepth 100000 in
set_option maxHeartbeats 1000000 in
theorem avail_any (B b : Nat) (bs : List Value) (w : World) (h : Lib.IsBuffer 49 5 B b bs w) :
    Calls Tryd.prog 40 #[.pointer (some ⟨b, 0, none⟩)] w fun e w' => ∃ ao g c cur, e = .returned (.slice ao 0 c) ∧ Avail B b bs w' ao g c cur ∧ ∃ n, w' = w.drewN n := by
  obtain ⟨hB, lr, hc⟩ := h.cases
  rcases hc with ⟨rfl, hbk⟩ | ⟨g, cap, cur, hbk, hBg, hg, hnc, hcm, hcs, htk, hgb⟩
  · have c0 : w.cell? ⟨b, 0, none⟩ = some (.slice none 0 0) := by rw [cell_of_block hbk]; rfl
    go_enter Tryd.func40, Tryd.ntmps40
    go_wp2
    go_quiet (fail)
    go_wp2
    go_ret
    exact ⟨none, 0, 0, [], rfl, ⟨hB, lr, .inl ⟨rfl, hbk, rfl, rfl⟩⟩, _, rfl⟩
  · have c0 : w.cell? ⟨b, 0, none⟩ = some (.slice (some ⟨g, 0, none⟩) bs.length cap) := by rw [cell_of_block hbk]; rfl
    have hr : Row w g cur.toList := by unfold Row; simpa using hg
    have hl : cur.toList.length = cap := by simpa using hcs
    have hA0 : Avail B b bs w (if cap - bs.length = 0 then some ⟨g, 0, none⟩ else some ⟨g, bs.length, none⟩) g (cap - bs.length) cur.toList :=
      ⟨hB, lr, .inr ⟨by rw [hl]; exact hbk, hBg, hr, by omega, by omega, htk, hgb, by rw [hl], rfl⟩⟩
    have hA : Hid (Avail B b bs w (if cap - bs.length = 0 then some ⟨g, 0, none⟩ else some ⟨g, bs.length, none⟩) g (cap - bs.length) cur.toList) := hA0
    have hcm' := hcm
    unfold maxLen at hcm'
    obtain ⟨n, hn⟩ : ∃ n, n = bs.length := ⟨_, rfl⟩
    rw [← hn] at c0 hnc
    have HN : Hid (n = bs.length) := hn
    clear hbk hg hcs htk hr hl hcm hA0 hn h
    by_cases h0 : cap = n
    · subst h0
      go_enter Tryd.func40, Tryd.ntmps40
      go_wp2
      go_quiet (fail)
      go_wp2
      go_ret
      have hA' := hA.out
      rw [← HN.out, Nat.sub_self, if_pos rfl] at hA'
      exact ⟨some ⟨g, 0, none⟩, g, 0, cur.toList, by simp, hA', _, rfl⟩
    · have h0' : ¬ cap - n = 0 := by omega
      go_enter Tryd.func40, Tryd.ntmps40
      go_wp2
      go_quiet (fail)
      go_wp2
      go_ret
      have hA' := hA.out
      rw [← HN.out, if_neg h0'] at hA'
      exact ⟨some ⟨g, n, none⟩, g, cap - n, cur.toList, by simp, hA', _, rfl⟩

theorem ta_no (a : Addr) (W : World) : (Instr.typeAssert (.iface 38 (.pointer (some a))) 55 50 true).run Tryd.prog W = .ok (.tuple #[.pointer none, .bool false]) W := by kernel_rfl
theorem ta_yes (a : Addr) (W : World) : (Instr.typeAssert (.iface 38 (.pointer (some a))) 55 38 true).run Tryd.prog W = .ok (.tuple #[.pointer (some a), .bool true]) W := by kernel_rfl
theorem ta_as (a : Addr) (W : World) : (Instr.typeAssert (.iface 38 (.pointer (some a))) 55 38 false).run Tryd.prog W = .ok (.pointer (some a)) W := by kernel_rfl

set_option maxRecDepth 100000 in
set_option maxHeartbeats 1000000 in
theorem write_byte (B b x : Nat) (bs : List Value) (w : World) (h : Lib.IsBuffer 49 5 B b bs w) (hBw : B ≤ w.heap.size) (h1 : ∀ v ∈ bs, v.oneCell' = true) (hlim : bs.length ≤ 4194304) (hx : x < 128) :
    Calls Tryd.prog 30 #[.iface 38 (.pointer (some ⟨b, 0, none⟩)), .int .u64 (x : Int)] w fun e w' => e = .returned (.tuple #[.int .i64 (ulen x : Int), .nilIface]) ∧ Lib.IsBuffer 49 5 B b (bs ++ uc x) w' ∧ Below B w w' := by
  have d0 : decide ((x : Int) < 128) = true := decide_eq_true (by omega)
  have t1 := ta_no ⟨b, 0, none⟩
  have t2 := ta_yes ⟨b, 0, none⟩
  have t3 := ta_as ⟨b, 0, none⟩
  have HL := hid hlim
  have H1 := hid h1
  clear hlim h1
  go_enter Tryd.func30, Tryd.ntmps30
  go_wp2_with fail
  refine (buf_byte B b bs (x : Int) w h hBw H1.out (by have := HL.out; omega)).mono ?_
  rintro e w' ⟨rfl, q1, q2, _⟩
  go_wp2
  go_ret2
  have e1 : ulen x = 1 := by have := ulen_cases x; omega
  have e2 : uc x = [.int .u8 (x : Int)] := by unfold uc ui; rw [uv1 x hx]; rfl
  rw [e1, e2]
  exact ⟨rfl, q1, q2⟩

set_option maxRecDepth 100000 in
set_option maxHeartbeats 1000000 in
theorem write_more (B b x : Nat) (bs : List Value) (w : World) (h : Lib.IsBuffer 49 5 B b bs w) (hBw : B ≤ w.heap.size) (h1 : ∀ v ∈ bs, v.oneCell' = true) (hlim : bs.length ≤ 4194304) (hx : 128 ≤ x) (hx1 : x < 18446744073709551616) :
    Calls Tryd.prog 30 #[.iface 38 (.pointer (some ⟨b, 0, none⟩)), .int .u64 (x : Int)] w fun e w' => e = .returned (.tuple #[.int .i64 (ulen x : Int), .nilIface]) ∧ Lib.IsBuffer 49 5 B b (bs ++ uc x) w' ∧ Below B w w' := by
  have d0 : decide ((x : Int) < 128) = false := decide_eq_false (by omega)
  have t1 := ta_no ⟨b, 0, none⟩
  have t2 := ta_yes ⟨b, 0, none⟩
  have t3 := ta_as ⟨b, 0, none⟩
  have HL := hid hlim
  have H1 := hid h1
  have HX := hid hx1
  clear hlim h1 hx1
  go_enter Tryd.func30, Tryd.ntmps30
  go_wp2_with fail
  refine (avail_any B b bs w h).mono ?_
  rintro e w1 ⟨ao, g, c, cur, rfl, hA, n, hw⟩
  have HW := hid hw
  have hB1 : B ≤ w1.heap.size := by rw [hw]; exact hBw
  clear hw
  go_wp2_with fail
  refine (out_any x w1 hx HX.out hA.came.1 hA.came.2).mono ?_
  rintro e w2 ⟨v, rfl, hP⟩
  obtain ⟨hI, hb2⟩ := hA.still hB1 hP
  obtain ⟨a', c', rfl, hsrc, hblk⟩ := hP.value hA.came.1 (ulen_pos x)
  go_wp2_with fail
  refine (buf_write B b bs (uc x) a' (ulen x) c' w2 hI (by have := hb2.size; omega) H1.out (uc_length x) ?_ hsrc (bc_one _) (by have := HL.out; have := ulen_le x; omega)).mono ?_
  · rcases hblk with ⟨hc, hg⟩ | hge
    · rw [hg]; exact hA.ne hc
    · have := hA.lt; omega
  rintro e w3 ⟨rfl, q1, q2, _⟩
  go_wp2
  go_ret2
  refine ⟨rfl, q1, ?_⟩
  have h0 : Below B w w1 := by rw [HW.out]; exact ⟨rfl, rfl, rfl, Nat.le_refl _, fun _ _ => rfl⟩
  exact (h0.trans hb2).trans q2

theorem write_any (B b x : Nat) (bs : List Value) (w : World) (h : Lib.IsBuffer 49 5 B b bs w) (hBw : B ≤ w.heap.size) (h1 : ∀ v ∈ bs, v.oneCell' = true) (hlim : bs.length ≤ 4194304) (hx1 : x < 18446744073709551616) :
    Calls Tryd.prog 30 #[.iface 38 (.pointer (some ⟨b, 0, none⟩)), .int .u64 (x : Int)] w fun e w' => e = .returned (.tuple #[.int .i64 (ulen x : Int), .nilIface]) ∧ Lib.IsBuffer 49 5 B b (bs ++ uc x) w' ∧ Below B w w' := by
  by_cases hx : x < 128
  · exact write_byte B b x bs w h hBw h1 hlim hx
  · exact write_more B b x bs w h hBw h1 hlim (by omega) hx1

theorem new_isBuffer {B n : Nat} {pv : Value} {zs : List Int} {w : World} (h : w.ownsRow B 5 1 pv n (bc zs)) (hB : B ≤ w.heap.size) : Lib.IsBuffer 49 5 B w.heap.size (bc zs) (w.alloc (.cells #[pv, .int .i64 0, .int .i8 0] 49)) := by
  have hn : (bc zs).length = n := by have := h.1; omega
  refine ⟨hB, pv, 0, alloc_at _ _, by rw [hn]; exact h.alloc _, fun e => ?_⟩
  have := (h.lt _ e).2
  omega

set_option maxRecDepth 100000 in
set_option maxHeartbeats 1000000 in
/-- ZZWriteUvarintBuffer. -/
theorem zz_buffer (B n x : Nat) (pv : Value) (zs : List Int) (w : World) (h : w.ownsRow B 5 1 pv n (bc zs)) (hB : B ≤ w.heap.size) (hlim : n ≤ 4194304) (hx1 : x < 18446744073709551616) :
    Calls Tryd.prog 9 #[pv, .int .u64 (x : Int)] w fun e w' => ∃ v, e = .returned (.tuple #[v, .int .i64 (ulen x : Int), .bool false]) ∧ w'.ownsRow B 5 1 v (n + ulen x) (bc (zs ++ ui x)) ∧ Below B w w' := by
  have hI := new_isBuffer h hB
  have hn : (bc zs).length = n := by have := h.1; omega
  have HX := hid hx1
  have HN := hid hn
  have HL := hid hlim
  obtain ⟨a, c, rfl, -, -, -⟩ := lies_owns h
  clear hx1 hn hlim
  go_enter Tryd.func9, Tryd.ntmps9
  go_wp2_with (first | (go_at_call 23; go_in) | (go_at_call 24; go_in))
  refine (write_any B w.heap.size x (bc zs) _ hI (by simp; omega) (bc_one _) (by rw [HN.out]; exact HL.out) HX.out).mono ?_
  rintro e w1 ⟨rfl, q1, q2⟩
  go_wp2
  have q1' : Lib.IsBuffer 49 5 B w.heap.size (bc zs ++ uc x) w1.drew := q1
  go_region_with (go_at_call 25; refine (buf_bytes B w.heap.size (bc zs ++ uc x) _ q1').mono ?_; rintro e w2 ⟨v2, rfl, q3, k2, hw2⟩)
  all_goals
    have HW2 := hid hw2
    clear hw2
    go_wp2
    go_ret3
    refine ⟨v2, rfl, ?_, ?_⟩
    · have e1 : (bc zs ++ uc x).length = n + ulen x := by rw [List.length_append, HN.out, uc_length]
      rw [e1, HW2.out] at q3
      rw [bc_append]
      exact q3
    · have h0 : Below B w (w.alloc (.cells #[.slice a n c, .int .i64 0, .int .i8 0] 49)) := (Below.refl _ _).alloc hB _
      have h2 := h0.trans q2
      exact ⟨h2.os, h2.tape, h2.output, h2.size, h2.block⟩
end Go.Proofs.Qxb6608669aDoor
