/-
  Seat b6608763a: the walk of FnShuffleReplyAppendFieldsDecodes. By an AI agent.
-/
import Derived.Test.Qxb6608763aLaw5
import Derived.Test.Qxb6608763aReply
import Derived.Test.Qxb6608763aIds
namespace Go.Proofs.Qxb6608763a
open Go.RowKit

theorem law3_early (a0 a : Option Addr) (n c0 m c : Nat) (ss : List ByteArray) (w : World) (hm : ss.length = m) (hmx : ∀ j, j < m → (ss.getD j ByteArray.empty).size ≤ maxLen) (h : SLies w a ss) (he : ¬ (n ≤ 1048576 ∧ m ≤ 65536)) :
    Calls Try.prog 3 #[.slice a0 n c0, .slice a m c] w fun e w' => e = .returned (.bool true) ∧ Below w.heap.size w w' := by
  have HC := bytes7 a0 a n c0 m c ss w hm hmx h
  clear h hm hmx
  go_enter Try.func3, Try.ntmps3
  go_wp2_with fail
  refine HC.mono ?_
  rintro e w' ⟨⟨x, rfl, -⟩, hw⟩
  rw [hw]; clear hw w' HC
  cases x with
  | false =>
    go_wp2_with fail
    go_ret
    exact ⟨rfl, Below.refl _ _⟩
  | true =>
    by_cases h1 : n ≤ 1048576
    · have d1 : ¬ (1048576 : Int) < (n : Int) := by omega
      have d2 : decide ((65536 : Int) < (m : Int)) = true := decide_eq_true (by omega)
      clear he
      go_wp2_with fail
      go_ret
      exact ⟨rfl, Below.refl _ _⟩
    · have d1 : (1048576 : Int) < (n : Int) := by omega
      clear he
      go_wp2_with fail
      go_ret
      exact ⟨rfl, Below.refl _ _⟩

set_option maxRecDepth 100000 in
set_option maxHeartbeats 1000000 in
theorem law3_nil (a0 : Option Addr) (n c0 : Nat) (zs : List Int) (w : World) (hz : zs.length = n) (hn : n ≤ 1048576) (ha : a0 = none → n = 0 ∧ c0 = 0) (hc : Lies w a0 zs) :
    Calls Try.prog 3 #[.slice a0 n c0, .slice none 0 0] w fun e w' => e = .returned (.bool true) ∧ Below w.heap.size w w' := by
  have hnil := fun (w : World) (a : Option Addr) (n c : Nat) => Lib.run_eql_slice_nil (P := Try.prog) w 23 9 a n c 0 0 Try.underlying23
  have HC := bytes7 a0 none n c0 0 0 [] w rfl (fun j hj => by omega) (fun j hj => by simp at hj)
  have HC2 := strs_any none n 0 0 [] w rfl (by omega) hn (fun j hj => by omega) (fun j hj => by simp at hj)
  have d1 : ¬ (1048576 : Int) < (n : Int) := by omega
  have H := hid (And.intro hz (And.intro hn (And.intro ha hc)))
  have hln : (hd 4 1).length = 1 := rfl
  clear hz hn ha hc
  go_enter Try.func3, Try.ntmps3
  go_wp2_with fail
  refine HC.mono ?_
  rintro e w' ⟨⟨x, rfl, -⟩, hw⟩
  rw [hw]; clear hw w' HC
  cases x with
  | false =>
    go_wp2_with fail
    go_ret
    exact ⟨rfl, Below.refl _ _⟩
  | true =>
    go_wp2_with fail
    refine HC2.mono ?_
    rintro e w' ⟨r, rfl, hr, hw⟩
    rw [hw]; clear hw w' HC2
    by_cases hrb : r ≤ 1048576
    · have d2 : ¬ (1048576 : Int) < (r : Int) := by omega
      clear hrb hr
      go_wp2_with fail
      refine (ids_nil w).mono ?_
      rintro e w' ⟨rfl, hw⟩
      rw [hw]; clear hw w'
      go_wp2_with fail
      refine (clone_own a0 n c0 zs w H.out.1 (by have := H.out; omega) H.out.2.2.1 H.out.2.2.2).mono ?_
      rintro e w2 ⟨sv, rfl, h2, hb2⟩
      have HM := reply_nil w.heap.size n sv zs w2 h2 hb2.size (by have := H.out; omega)
      have HB2 := hid (And.intro h2 hb2)
      clear h2 hb2
      go_wp2_with fail
      refine HM.mono ?_
      rintro e w3 ⟨v3, rfl, g3⟩
      obtain ⟨a3, c3, rfl, hl3, -, L3, -⟩ := owns_lies g3.own
      have B3 : Below w.heap.size w w3 := HB2.out.2.trans (g3.below HB2.out.2.size (fun k hk => (HB2.out.1.lt k hk).1))
      obtain ⟨N, hN⟩ : ∃ N, N = n + (hd 4 1 ++ [246]).length := ⟨_, rfl⟩
      rw [← hN] at hl3 ⊢
      have hN2 : N = n + 2 := by rw [hN, List.length_append, hln]; rfl
      have H3 := hid (And.intro L3 (And.intro hl3 B3))
      have HP := prefix_any a3 a0 N n c3 c0 zs (hd 4 1 ++ [246]) w3 H.out.1 (by have h' := hl3; rw [List.length_append] at h'; exact h') (by have := H.out; omega) L3 (H.out.2.2.2.below B3)
      have HN2 := hid hN2
      clear HM g3 L3 hl3 B3 hN hN2 HB2
      go_wp2_with fail
      refine HP.mono ?_
      rintro e w4 ⟨rfl, k4, hw4⟩
      have L4 : Lies w4 a3 (zs ++ (hd 4 1 ++ [246])) := by rw [hw4]; exact H3.out.1
      have B4 : Below w.heap.size w w4 := by rw [hw4]; exact below_drewN' H3.out.2.2 k4
      have HE := expect_at a3 N c3 4 1 n (n + 1) _ zs [246] w4 (by have := H.out; have := HN2.out; omega) H3.out.2.1 (by omega) (by omega) L4 (by rw [List.append_assoc]) H.out.1 (by rw [hln])
      obtain ⟨b3, o3, rfl, g3⟩ := addr_of L4 (by rw [H3.out.2.1]; have := HN2.out; omega)
      have gc : w4.cell? ⟨b3, o3 + (n + 1), none⟩ = some (.int .u8 246) := by
        rw [g3 (n + 1) (by rw [H3.out.2.1]; have := HN2.out; omega)]
        have := getD_mid zs (hd 4 1 ++ [246]) [] 1 (by simp [hln])
        rw [H.out.1, List.append_nil] at this
        rw [this]
        rfl
      have HB4 := hid B4
      clear hw4 HP L4 B4 g3 hln
      go_wp2_with fail
      refine HE.mono ?_
      rintro e w' ⟨rfl, hw⟩
      rw [hw]; clear hw w' HE
      have hlt : (n : Int) + 1 < (N : Int) := by have := HN2.out; omega
      have heq : (n : Int) + 1 + 1 = (N : Int) := by have := HN2.out; omega
      go_wp2
      go_ret
      exact ⟨rfl, HB4.out⟩
    · have d2 : (1048576 : Int) < (r : Int) := by omega
      clear hrb hr
      go_wp2_with fail
      go_ret
      exact ⟨rfl, Below.refl _ _⟩

/-- Where the t-th text begins. -/
def pos (n m : Nat) (ss : List ByteArray) (t : Nat) : Nat := n + (hd 4 1).length + (hd 4 m).length + (flL (ss.take t)).length

theorem flL_split (ss : List ByteArray) (k : Nat) (h : k < ss.length) : flL ss = flL (ss.take k) ++ (hd 3 (ss.getD k ByteArray.empty).size ++ (sb (ss.getD k ByteArray.empty) ++ flL (ss.drop (k + 1)))) := by
  conv => lhs; rw [← List.take_append_drop (k + 1) ss]
  unfold flL
  rw [List.flatMap_append]
  have := flL_snoc ss k h
  unfold flL at this
  rw [this]
  simp only [List.append_assoc]
  rw [show itL (ss.getD k ByteArray.empty) = hd 3 (ss.getD k ByteArray.empty).size ++ sb (ss.getD k ByteArray.empty) from rfl, List.append_assoc]

set_option maxRecDepth 100000 in
set_option maxHeartbeats 1000000 in
theorem law3_some (a0 : Option Addr) (n c0 m c : Nat) (x : Addr) (zs : List Int) (ss : List ByteArray) (w : World) (hz : zs.length = n) (hn : n ≤ 1048576) (ha : a0 = none → n = 0 ∧ c0 = 0) (hc : Lies w a0 zs)
    (hm : ss.length = m) (hmb : m ≤ 65536) (hmx : ∀ j, j < m → (ss.getD j ByteArray.empty).size ≤ maxLen) (hS : SLies w (some x) ss) :
    Calls Try.prog 3 #[.slice a0 n c0, .slice (some x) m c] w fun e w' => e = .returned (.bool true) ∧ Below w.heap.size w w' := by
  have hnil := fun (w : World) (a : Option Addr) (n c : Nat) => Lib.run_eql_slice_nil (P := Try.prog) w 23 9 a n c 0 0 Try.underlying23
  have HC := bytes7 a0 (some x) n c0 m c ss w hm hmx hS
  have HC2 := fun hs => strs_any (some x) n m c ss w hm hmb hn hs hS
  have HI := ids_some x m c ss w hm hmb (fun h0 => by
    obtain ⟨b, o, hx, g⟩ := saddr_of hS (by omega)
    exact ⟨b, o, Option.some.inj hx, fun j hj => g j (by omega)⟩)
  have d1 : ¬ (1048576 : Int) < (n : Int) := by omega
  have d3 : decide ((65536 : Int) < (m : Int)) = false := decide_eq_false (by omega)
  have hwm : (m : Int) % 18446744073709551616 = (m : Int) := by omega
  have H := hid (And.intro hz (And.intro hn (And.intro ha (And.intro hc (And.intro hm (And.intro hmb hS))))))
  have HC2' := hid HC2
  clear hz hn ha hc hm hmb hmx hS HC2
  go_enter Try.func3, Try.ntmps3
  go_wp2_with fail
  refine HC.mono ?_
  rintro e w' ⟨⟨x', rfl, hx'⟩, hw⟩
  rw [hw]; clear hw w' HC
  cases x' with
  | false =>
    go_wp2_with fail
    go_ret
    exact ⟨rfl, Below.refl _ _⟩
  | true =>
    have HC2 := HC2'.out (hx' rfl)
    clear hx' HC2'
    go_wp2_with fail
    refine HC2.mono ?_
    rintro e w' ⟨r, rfl, hr, hw⟩
    rw [hw]; clear hw w' HC2
    by_cases hrb : r ≤ 1048576
    · have d2 : ¬ (1048576 : Int) < (r : Int) := by omega
      have HW : Hid (n + w16 ss ≤ 1048576) := hr.out.1 hrb
      clear hrb hr
      go_wp2_with fail
      refine HI.mono ?_
      rintro e w1 ⟨g, rfl, HId⟩
      clear HI
      go_wp2_with fail
      refine (clone_own a0 n c0 zs w1 H.out.1 (by have := H.out; omega) H.out.2.2.1 (H.out.2.2.2.1.below HId.out.below)).mono ?_
      rintro e w2 ⟨sv, rfl, h2, hb2⟩
      have HM := reply_some w1.heap.size n m m g 0 sv zs ss w2 h2 hb2.size H.out.2.2.2.2.1 (by have h1 := wt_le_w16 ss; have h2 := HW.out; omega)
        (fun j hj => (hb2.cell HId.out.lt).trans (HId.out.cells j hj)) (fun e => by have := (h2.lt g e).1; have := HId.out.lt; omega) (Nat.lt_of_lt_of_le HId.out.lt hb2.size)
      have HB2 := hid (And.intro h2 hb2)
      clear h2 hb2
      go_wp2_with fail
      refine HM.mono ?_
      rintro e w3 ⟨v3, rfl, g3⟩
      obtain ⟨a3, c3, rfl, hl3, -, L3, -⟩ := owns_lies g3.own
      have B3 : Below w.heap.size w w3 := Below.then HId.out.below (HB2.out.2.trans (g3.below HB2.out.2.size (fun k hk => (HB2.out.1.lt k hk).1)))
      obtain ⟨N, hN⟩ : ∃ N, N = n + (hd 4 1 ++ (hd 4 m ++ flL ss)).length := ⟨_, rfl⟩
      rw [← hN] at hl3 ⊢
      have hNb : N ≤ 4194304 := by
        have h1 := flL_le ss
        have h2 := wt_le_w16 ss
        have h3 := HW.out
        have h4 := hd_length_le 4 1
        have h5 := hd_length_le 4 m
        rw [hN]
        simp only [List.length_append]
        omega
      obtain ⟨ys, hys⟩ : ∃ ys, ys = zs ++ (hd 4 1 ++ (hd 4 m ++ flL ss)) := ⟨_, rfl⟩
      have HP := prefix_any a3 a0 N n c3 c0 zs (hd 4 1 ++ (hd 4 m ++ flL ss)) w3 H.out.1 (by have h' := hl3; rw [List.length_append] at h'; exact h') (by have := H.out; omega) L3 (H.out.2.2.2.1.below B3)
      rw [← hys] at L3 hl3
      have H3 := hid (And.intro L3 (And.intro hl3 (And.intro B3 (And.intro hN (And.intro hNb hys)))))
      have hlt : (n : Int) ≤ (N : Int) := by omega
      clear HM g3 L3 hl3 B3 hN hNb HB2 hys
      go_wp2_with fail
      refine HP.mono ?_
      rintro e w4 ⟨rfl, k4, hw4⟩
      have L4 : Lies w4 a3 ys := by rw [hw4]; exact H3.out.1
      have B4 : Below w.heap.size w w4 := by rw [hw4]; exact below_drewN' H3.out.2.2.1 k4
      obtain ⟨i1, hi1⟩ : ∃ i, n + (hd 4 1).length = i := ⟨_, rfl⟩
      obtain ⟨i2, hi2⟩ : ∃ i, i1 + (hd 4 m).length = i := ⟨_, rfl⟩
      have E1 := expect_at a3 N c3 4 1 n i1 ys zs (hd 4 m ++ flL ss) w4 H3.out.2.2.2.2.1 H3.out.2.1 (by omega) (by omega) L4 (by rw [H3.out.2.2.2.2.2]; simp only [List.append_assoc]) H.out.1 hi1
      have E2 := expect_at a3 N c3 4 m i1 i2 ys (zs ++ hd 4 1) (flL ss) w4 H3.out.2.2.2.2.1 H3.out.2.1 (by omega) (by have := H.out; omega) L4 (by rw [H3.out.2.2.2.2.2]; simp only [List.append_assoc]) (by rw [List.length_append, H.out.1]; exact hi1) hi2
      have hp0 : i2 = pos n m ss 0 := by unfold pos; rw [← hi2, ← hi1]; simp [flL]
      have HB4 := hid (And.intro B4 L4)
      have HP0 := hid hp0
      have HSL : Hid (SLies w4 (some x) ss) := fun j hj => by
        obtain ⟨y, hy, hcy⟩ := H.out.2.2.2.2.2.2 j hj
        exact ⟨y, hy, (B4.cell (World.block_lt_of_cell? _ _ hcy)).trans hcy⟩
      clear hw4 HP L4 B4 hi1 hi2 hp0
      go_wp2_with fail
      refine E1.mono ?_
      rintro e w' ⟨rfl, hw⟩
      rw [hw]; clear hw w' E1
      go_wp2_with fail
      refine E2.mono ?_
      rintro e w' ⟨rfl, hw⟩
      rw [hw]; clear hw w' E2
      go_wp2
      go_loopw [7, 9] (fun i t wr => ∃ T I : Nat, T ≤ m ∧ t = .int .i64 (T : Int) ∧ i = .int .i64 (I : Int) ∧ Hid (I = pos n m ss T) ∧ ∃ k, wr = w4.drewN k) (fun _ t _ => m - (intOf t).toNat)
      case atStart => exact ⟨0, i2, Nat.zero_le _, rfl, rfl, HP0, 0, rfl⟩
      case round =>
        obtain ⟨T, I, hT, rfl, rfl, hI, k, rfl⟩ := hrel
        by_cases hlT : T < m
        · obtain ⟨b, o, hx, gx⟩ := saddr_of HSL.out (by rw [H.out.2.2.2.2.1]; omega)
          obtain rfl := Option.some.inj hx
          have g := gx T (by rw [H.out.2.2.2.2.1]; exact hlT)
          have hsp := flL_split ss T (by rw [H.out.2.2.2.2.1]; exact hlT)
          have hsn := flL_snoc ss T (by rw [H.out.2.2.2.2.1]; exact hlT)
          obtain ⟨z, hzz⟩ : ∃ z, z = ss.getD T ByteArray.empty := ⟨_, rfl⟩
          rw [← hzz] at g hsp hsn
          obtain ⟨J, hJ⟩ : ∃ J, I + (hd 3 z.size).length + z.size = J := ⟨_, rfl⟩
          have E := etext_at a3 N c3 I J ys (zs ++ hd 4 1 ++ hd 4 m ++ flL (ss.take T)) (flL (ss.drop (T + 1))) z (w4.drewN k) H3.out.2.2.2.2.1 H3.out.2.1 (HB4.out.2.drewN k) (by rw [H3.out.2.2.2.2.2, hsp]; simp only [List.append_assoc]) (by rw [hI.out]; unfold pos; simp only [List.length_append, H.out.1]) hJ
          have HJ : Hid (J = pos n m ss (T + 1)) := by
            unfold Hid pos
            rw [hsn, ← hJ, hI.out]
            unfold pos itL
            simp only [List.length_append, sb_length]
            omega
          have hlT' : (T : Int) < (m : Int) := by omega
          clear gx hzz hJ hsp hsn hx hI
          have hmb : m ≤ 65536 := H.out.2.2.2.2.2.1
          go_wp2_with fail
          refine E.mono ?_
          rintro e w5 ⟨rfl, k5, hw5⟩
          rw [hw5]; clear hw5 w5 E
          go_wp2
          refine ⟨⟨T + 1, J, by omega, by go_num, rfl, HJ, _, rfl⟩, by simp [intOf]; omega⟩
        · obtain rfl : T = m := by omega
          have hIN : I = N := by
            rw [hI.out, H3.out.2.2.2.1]
            unfold pos
            rw [List.take_of_length_le (by rw [H.out.2.2.2.2.1]; exact Nat.le_refl _)]
            simp only [List.length_append]
            omega
          subst hIN
          clear hI
          go_wp2
          go_ret
          exact ⟨by simp, below_drewN' HB4.out.1 k⟩
    · have d2 : (1048576 : Int) < (r : Int) := by omega
      clear hrb hr
      go_wp2_with fail
      go_ret
      exact ⟨rfl, Below.refl _ _⟩

theorem law3_any (a0 a1 : Option Addr) (n c0 m c : Nat) (zs : List Int) (ss : List ByteArray) (w : World) (hz : zs.length = n) (ha : a0 = none → n = 0 ∧ c0 = 0) (hc : Lies w a0 zs)
    (hm : ss.length = m) (ha1 : a1 = none → m = 0 ∧ c = 0) (hmx : ∀ j, j < m → (ss.getD j ByteArray.empty).size ≤ maxLen) (hS : SLies w a1 ss) :
    Calls Try.prog 3 #[.slice a0 n c0, .slice a1 m c] w fun e w' => e = .returned (.bool true) ∧ Below w.heap.size w w' := by
  by_cases he : n ≤ 1048576 ∧ m ≤ 65536
  · cases a1 with
    | none =>
      obtain ⟨rfl, rfl⟩ := ha1 rfl
      exact law3_nil a0 n c0 zs w hz he.1 ha hc
    | some x => exact law3_some a0 n c0 m c x zs ss w hz he.1 ha hc hm he.2 hmx hS
  · exact law3_early a0 a1 n c0 m c ss w hm hmx hS he
end Go.Proofs.Qxb6608763a
