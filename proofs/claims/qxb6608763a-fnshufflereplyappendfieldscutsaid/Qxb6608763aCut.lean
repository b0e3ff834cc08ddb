/-
  Seat b6608763a: the walk of FnShuffleReplyAppendFieldsCut, a list. By an AI agent.
-/
import Derived.Test.Qxb6608763aLaw4
namespace Go.Proofs.Qxb6608763a
open Go.RowKit

/-- A part of the list, written onto nothing. -/
theorem part_any (m mc b o : Nat) (ss : List ByteArray) (w : World) (hm : ss.length = m) (hn : wt ss ≤ 2000000) (hI : ∀ j, j < m → w.cell? ⟨b, o + j, none⟩ = some (.string (ss.getD j ByteArray.empty))) (hb : b < w.heap.size) :
    Calls Try.prog 10 #[.slice none 0 0, .slice (some ⟨b, o, none⟩) m mc] w fun e w' => ∃ a N c, e = .returned (.slice a N c) ∧ Hid (Lies w' a (hd 4 1 ++ (hd 4 m ++ flL ss)) ∧ (hd 4 1 ++ (hd 4 m ++ flL ss)).length = N ∧ Below w.heap.size w w' ∧ N ≤ c ∧ N ≤ 4000000) := by
  refine (reply_some w.heap.size 0 m mc b o (.slice none 0 0) [] ss w (World.ownsRow_nil w w.heap.size 5 1) (Nat.le_refl _) hm (by omega) hI (fun e => by cases e) hb).mono ?_
  rintro e w' ⟨v', rfl, g⟩
  obtain ⟨a, c, rfl, hl, -, L, hc⟩ := owns_lies g.own
  rw [List.nil_append] at hl L
  refine ⟨a, _, c, rfl, L, hl, g.below (Nat.le_refl _) (fun k hk => by cases hk), hc, ?_⟩
  have h1 := flL_le ss
  have h4 := hd_length_le 4 1
  have h5 := hd_length_le 4 m
  simp only [List.length_append]
  omega

set_option maxRecDepth 100000 in
set_option maxHeartbeats 2000000 in
theorem law4_lt (a0 : Option Addr) (n c0 m c p k : Nat) (x : Addr) (zs : List Int) (ss : List ByteArray) (w : World) (hz : zs.length = n) (hn : n ≤ 1048576) (ha : a0 = none → n = 0 ∧ c0 = 0) (hc : Lies w a0 zs)
    (hm : ss.length = m) (hmb : m ≤ 65536) (hmx : ∀ j, j < m → (ss.getD j ByteArray.empty).size ≤ maxLen) (hS : SLies w (some x) ss) (hp : p < m) (hk : p + k = m) :
    Calls Try.prog 4 #[.slice a0 n c0, .slice (some x) m c, .int .i64 (p : Int)] w fun e w' => e = .returned (.bool true) ∧ Below w.heap.size w w' := by
  have hnil := fun (w : World) (a : Option Addr) (n c : Nat) => Lib.run_eql_slice_nil (P := Try.prog) w 23 9 a n c 0 0 Try.underlying23
  have HC := bytes15 a0 (some x) n c0 m c p ss w hm hmx hS
  have HC2 := fun hs => strs_any (some x) n m c ss w hm hmb hn hs hS
  have HI := ids_some x m c ss w hm hmb (fun h0 => by
    obtain ⟨b, o, hx, g⟩ := saddr_of hS (by omega)
    exact ⟨b, o, Option.some.inj hx, fun j hj => g j (by omega)⟩)
  have d1 : ¬ (1048576 : Int) < (n : Int) := by omega
  have d3 : decide ((65536 : Int) < (m : Int)) = false := decide_eq_false (by omega)
  have d4 : ¬ (m : Int) < (p : Int) := by omega
  have d5 : ¬ m = 0 := by omega
  have d6 : ¬ m = p := by omega
  have d7 : (p : Int) < (m : Int) := by omega
  have d8 : (p : Int) ≤ (m : Int) := by omega
  have hsub : m - p = k := by omega
  have hsubI : (m : Int) - (p : Int) = (k : Int) := by omega
  have hkw : wrap64 (k : Int) = (k : Int) := by unfold wrap64; omega
  have H := hid (And.intro hz (And.intro hn (And.intro ha (And.intro hc (And.intro hm (And.intro hmb (And.intro hS (And.intro hp hk))))))))
  have HC2' := hid HC2
  clear hz hn ha hc hm hmb hmx hS HC2 hp hk
  go_enter Try.func4, Try.ntmps4
  go_wp2_with fail
  refine HC.mono ?_
  rintro e w' ⟨⟨x', rfl, hx'⟩, hw⟩
  rw [hw]; clear hw w' HC
  cases x' with
  | false =>
    go_wp2_with fail
    go_ret
    exact ⟨rfl, Below.refl _ _⟩
  | true =>
    have HC2 := HC2'.out (hx' rfl)
    clear hx' HC2'
    go_wp2_with fail
    refine HC2.mono ?_
    rintro e w' ⟨r, rfl, hr, hw⟩
    rw [hw]; clear hw w' HC2
    by_cases hrb : r ≤ 1048576
    · have d2 : ¬ (1048576 : Int) < (r : Int) := by omega
      have HW : Hid (n + w16 ss ≤ 1048576) := hr.out.1 hrb
      clear hrb hr
      go_wp2_with fail
      refine HI.mono ?_
      rintro e w1 ⟨g, rfl, HId⟩
      clear HI
      go_wp2_with fail
      refine (clone_own a0 n c0 zs w1 H.out.1 (by have := H.out; omega) H.out.2.2.1 (H.out.2.2.2.1.below HId.out.below)).mono ?_
      rintro e w2 ⟨sv, rfl, h2, hb2⟩
      have HM := reply_some w1.heap.size n m m g 0 sv zs ss w2 h2 hb2.size H.out.2.2.2.2.1 (by have h1 := wt_le_w16 ss; have h2 := HW.out; omega)
        (fun j hj => (hb2.cell HId.out.lt).trans (HId.out.cells j hj)) (fun e => by have := (h2.lt g e).1; have := HId.out.lt; omega) (Nat.lt_of_lt_of_le HId.out.lt hb2.size)
      have HB2 := hid (And.intro h2 hb2)
      clear h2 hb2
      go_wp2_with fail
      refine HM.mono ?_
      rintro e w3 ⟨v3, rfl, g3⟩
      obtain ⟨a3, c3, rfl, hl3, -, L3, hc3⟩ := owns_lies g3.own
      have B13 : Below w1.heap.size w1 w3 := HB2.out.2.trans (g3.below HB2.out.2.size (fun k hk => (HB2.out.1.lt k hk).1))
      have B3 : Below w.heap.size w w3 := Below.then HId.out.below B13
      obtain ⟨N, hN⟩ : ∃ N, N = n + (hd 4 1 ++ (hd 4 m ++ flL ss)).length := ⟨_, rfl⟩
      rw [← hN] at hl3 hc3 ⊢
      have hNb : N ≤ 4194304 := by
        have h1 := flL_le ss
        have h2 := wt_le_w16 ss
        have h3 := HW.out
        have h4 := hd_length_le 4 1
        have h5 := hd_length_le 4 m
        rw [hN]
        simp only [List.length_append]
        omega
      obtain ⟨ys, hys⟩ : ∃ ys, ys = zs ++ (hd 4 1 ++ (hd 4 m ++ flL ss)) := ⟨_, rfl⟩
      have HP := prefix_any a3 a0 N n c3 c0 zs (hd 4 1 ++ (hd 4 m ++ flL ss)) w3 H.out.1 (by have h' := hl3; rw [List.length_append] at h'; exact h') (by have := H.out; omega) L3 (H.out.2.2.2.1.below B3)
      rw [← hys] at L3 hl3
      have H3 := hid (And.intro L3 (And.intro hl3 (And.intro B3 (And.intro hN (And.intro hNb (And.intro hys (And.intro hc3 B13)))))))
      have hlt : (n : Int) ≤ (N : Int) := by omega
      clear HM g3 L3 hl3 B3 hN hNb HB2 hys hc3 B13
      go_wp2_with fail
      refine HP.mono ?_
      rintro e w4 ⟨rfl, k4, hw4⟩
      have L4 : Lies w4 a3 ys := by rw [hw4]; exact H3.out.1
      have B4 : Below w.heap.size w w4 := by rw [hw4]; exact below_drewN' H3.out.2.2.1 k4
      have B14 : Below w1.heap.size w1 w4 := by rw [hw4]; exact below_drewN' H3.out.2.2.2.2.2.2.2 k4
      have H4 := hid (And.intro L4 (And.intro B4 B14))
      have P5 := part_any p m g 0 (ss.take p) w4 (by rw [List.length_take, H.out.2.2.2.2.1]; have := H.out; omega) (by have h1 := wt_cut ss p; have h2 := wt_le_w16 ss; have h3 := HW.out; omega) (fun j hj => (by rw [take_getD _ _ _ hj]; exact (B14.cell HId.out.lt).trans (HId.out.cells j (by have := H.out; omega)))) (Nat.lt_of_lt_of_le HId.out.lt B14.size)
      clear hw4 HP L4 B4 B14
      go_wp2_with fail
      refine P5.mono ?_
      rintro e w5 ⟨a5, N5, c5, rfl, H5⟩
      have B15 := Below.then H4.out.2.2 H5.out.2.2.1
      have P6 := part_any k k g p (ss.drop p) w5 (by rw [List.length_drop, H.out.2.2.2.2.1]; have := H.out; omega) (by have h1 := wt_cut ss p; have h2 := wt_le_w16 ss; have h3 := HW.out; omega) (fun j hj => (by rw [drop_getD]; have h' := (B15.cell HId.out.lt).trans (HId.out.cells (p + j) (by have := H.out; omega)); rw [Nat.zero_add] at h'; exact h')) (Nat.lt_of_lt_of_le HId.out.lt B15.size)
      clear P5 B15
      go_wp2_with fail
      refine P6.mono ?_
      rintro e w6 ⟨a6, N6, c6, rfl, H6⟩
      clear P6
      have L6 : Lies w6 a3 ys := (H4.out.1.below H5.out.2.2.1).below H6.out.2.2.1
      have L65 := H5.out.1.below H6.out.2.2.1
      have L66 := H6.out.1
      have B6 : Below w.heap.size w w6 := Below.then H4.out.2.1 (Below.then H5.out.2.2.1 H6.out.2.2.1)
      obtain ⟨L1, hL1⟩ : ∃ L, L = (flL (ss.take p)).length := ⟨_, rfl⟩
      obtain ⟨L2, hL2⟩ : ∃ L, L = (flL (ss.drop p)).length := ⟨_, rfl⟩
      have hL12 : (flL ss).length = L1 + L2 := by rw [← flL_cut ss p, List.length_append, ← hL1, ← hL2]
      obtain ⟨iw, hiw⟩ : ∃ i, n + (hd 4 1).length + (hd 4 m).length = i := ⟨_, rfl⟩
      obtain ⟨ih, hih⟩ : ∃ i, 0 + (hd 4 1).length + (hd 4 p).length = i := ⟨_, rfl⟩
      obtain ⟨it, hit⟩ : ∃ i, 0 + (hd 4 1).length + (hd 4 k).length = i := ⟨_, rfl⟩
      have q1 : N - iw = L1 + L2 := by have h := H3.out.2.2.2.1; simp only [List.length_append] at h; omega
      have q2 : N5 - ih = L1 := by have h := H5.out.2.1; simp only [List.length_append] at h; omega
      have q3 : N6 - it = L2 := by have h := H6.out.2.1; simp only [List.length_append] at h; omega
      have r1 : (iw : Int) ≤ (N : Int) := by have h := H3.out.2.2.2.1; simp only [List.length_append] at h; omega
      have r2 : (ih : Int) ≤ (N5 : Int) := by have h := H5.out.2.1; simp only [List.length_append] at h; omega
      have r3 : (it : Int) ≤ (N6 : Int) := by have h := H6.out.2.1; simp only [List.length_append] at h; omega
      have E1 := items_at a3 N c3 m n iw ys zs (flL ss) w6 H3.out.2.2.2.2.1 H3.out.2.1 H.out.2.2.2.2.2.1 L6 (by rw [H3.out.2.2.2.2.2.1]; simp only [List.append_assoc]) H.out.1 hiw
      have E2 := items_at a5 N5 c5 p 0 ih _ [] (flL (ss.take p)) w6 (by have := H5.out; omega) H5.out.2.1 (by have := H.out; omega) L65 (by simp only [List.append_assoc, List.nil_append]) rfl hih
      have E3 := items_at a6 N6 c6 k 0 it _ [] (flL (ss.drop p)) w6 (by have := H6.out; omega) H6.out.2.1 (by have := H.out; omega) L66 (by simp only [List.append_assoc, List.nil_append]) rfl hit
      obtain ⟨b3, o3, rfl, -⟩ := addr_of L6 (by rw [H3.out.2.1]; have h := H3.out.2.2.2.1; have := hd_pos 4 1; simp only [List.length_append] at h; omega)
      obtain ⟨b5, o5, rfl, -⟩ := addr_of L65 (by have := hd_pos 4 1; simp only [List.length_append]; omega)
      obtain ⟨b6, o6, rfl, -⟩ := addr_of L66 (by have := hd_pos 4 1; simp only [List.length_append]; omega)
      have X1 := lies_cut (i := iw) (p := zs ++ (hd 4 1 ++ hd 4 m)) (r := flL ss) L6 H3.out.2.1 H3.out.2.2.2.2.2.2.1 (by rw [H3.out.2.2.2.2.2.1]; simp only [List.append_assoc]) (by simp only [List.length_append, H.out.1]; omega)
      have X2 := lies_cut (i := ih) (p := hd 4 1 ++ hd 4 p) (r := flL (ss.take p)) L65 H5.out.2.1 H5.out.2.2.2.1 (by simp only [List.append_assoc]) (by simp only [List.length_append]; omega)
      have X3 := lies_cut (i := it) (p := hd 4 1 ++ hd 4 k) (r := flL (ss.drop p)) L66 H6.out.2.1 H6.out.2.2.2.1 (by simp only [List.append_assoc]) (by simp only [List.length_append]; omega)
      obtain ⟨A1, hA1⟩ : ∃ A, (if c3 = iw then some (⟨b3, o3, none⟩ : Addr) else some ⟨b3, o3 + iw, none⟩) = A := ⟨_, rfl⟩
      obtain ⟨A2, hA2⟩ : ∃ A, (if c5 = ih then some (⟨b5, o5, none⟩ : Addr) else some ⟨b5, o5 + ih, none⟩) = A := ⟨_, rfl⟩
      obtain ⟨A3, hA3⟩ : ∃ A, (if c6 = it then some (⟨b6, o6, none⟩ : Addr) else some ⟨b6, o6 + it, none⟩) = A := ⟨_, rfl⟩
      rw [hA1] at X1
      rw [hA2] at X2
      rw [hA3] at X3
      have HX := hid (And.intro X1 (And.intro X2 X3))
      have HL := hid (And.intro hL1 (And.intro hL2 hL12))
      have HB6 := hid B6
      obtain ⟨bx, ox, hxx, gx⟩ := saddr_of H.out.2.2.2.2.2.2.1 (by rw [H.out.2.2.2.2.1]; have := H.out; omega)
      obtain rfl := Option.some.inj hxx
      have gt := gx p (by rw [H.out.2.2.2.2.1]; have := H.out; omega)
      have gt6 := (B6.cell (World.block_lt_of_cell? _ _ gt)).trans gt
      have hfd := flL_drop ss p (by rw [H.out.2.2.2.2.1]; have := H.out; omega)
      obtain ⟨z, hzz⟩ : ∃ z, z = ss.getD p ByteArray.empty := ⟨_, rfl⟩
      rw [← hzz] at gt6 hfd
      obtain ⟨J, hJ⟩ : ∃ J, it + (hd 3 z.size).length + z.size = J := ⟨_, rfl⟩
      have E4 := etext_at _ N6 c6 it J _ (hd 4 1 ++ hd 4 k) (flL (ss.drop (p + 1))) z w6 (by have := H6.out; omega) H6.out.2.1 L66 (by rw [hfd]; simp only [List.append_assoc]) (by simp only [List.length_append]; omega) hJ
      clear gx gt hxx hfd hzz hJ
      clear L6 L65 L66 B6 hL1 hL2 hL12 hiw hih hit X1 X2 X3
      go_wp2_with fail
      refine E1.mono ?_
      rintro e w' ⟨rfl, hw⟩
      rw [hw]; clear hw w' E1
      go_wp2_with fail
      refine E2.mono ?_
      rintro e w' ⟨rfl, hw⟩
      rw [hw]; clear hw w' E2
      go_wp2_with fail
      refine E3.mono ?_
      rintro e w' ⟨rfl, hw⟩
      rw [hw]; clear hw w' E3
      go_wp2_with fail
      refine E4.mono ?_
      rintro e w7 ⟨rfl, k7, hw7⟩
      have HX7 : Hid (Lies w7 A1 (flL ss) ∧ Lies w7 A2 (flL (ss.take p)) ∧ Lies w7 A3 (flL (ss.drop p))) := by rw [hw7]; exact HX.out
      have HB7 : Hid (Below w.heap.size w w7) := by rw [hw7]; exact below_drewN' HB6.out k7
      clear hw7 E4 HX HB6 gt6
      have CT : ∀ (W : World), Lies W A2 (flL (ss.take p)) → Lies W A3 (flL (ss.drop p)) → Calls Try.prog 18 #[.slice A2 L1 (c5 - ih), .slice A3 L2 (c6 - it)] W fun e w' => ∃ a c, e = .returned (.slice a (L1 + L2) c) ∧ Hid (Lies w' a (flL ss) ∧ Below W.heap.size W w') := fun W h2 h3 => by
        have := cat_any A2 A3 L1 L2 (c5 - ih) (c6 - it) _ _ W HL.out.1.symm HL.out.2.1.symm (by have h := HL.out.2.2; have := H3.out; have h' := H3.out.2.2.2.1; simp only [List.length_append] at h'; omega) h2 h3
        rw [flL_cut] at this
        exact this
      have CT7 := CT w7.drew HX7.out.2.1 HX7.out.2.2
      clear CT
      go_wp2_with fail
      go_region_held3 (fun _ => True) (trivial) (first
        | (go_at_call 18; refine CT7.mono ?_; rintro e w8 ⟨a8, c8, rfl, H8⟩; have EQ := equal_any A1 a8 (L1 + L2) (c3 - iw) c8 (flL ss) w8 HL.out.2.2 (by have h := HL.out.2.2; have := H3.out; have h' := H3.out.2.2.2.1; simp only [List.length_append] at h'; omega) (Lies.below (w := w7) HX7.out.1 ⟨H8.out.2.os, H8.out.2.tape, H8.out.2.output, H8.out.2.size, H8.out.2.block⟩) H8.out.1)
        | (go_at_call 17; refine EQ.mono ?_; rintro e w9 ⟨rfl, k9, hw9⟩; rw [hw9]; clear hw9 w9))
      go_wp2
      go_ret
      exact ⟨rfl, below_drewN' (Below.then HB7.out ⟨H8.out.2.os, H8.out.2.tape, H8.out.2.output, H8.out.2.size, H8.out.2.block⟩) k9⟩
    · have d2 : (1048576 : Int) < (r : Int) := by omega
      clear hrb hr
      go_wp2_with fail
      go_ret
      exact ⟨rfl, Below.refl _ _⟩
set_option maxRecDepth 100000 in
set_option maxHeartbeats 2000000 in
theorem law4_eq (a0 : Option Addr) (n c0 m c : Nat) (x : Addr) (zs : List Int) (ss : List ByteArray) (w : World) (hz : zs.length = n) (hn : n ≤ 1048576) (ha : a0 = none → n = 0 ∧ c0 = 0) (hc : Lies w a0 zs)
    (hm : ss.length = m) (hmb : m ≤ 65536) (hmx : ∀ j, j < m → (ss.getD j ByteArray.empty).size ≤ maxLen) (hS : SLies w (some x) ss) :
    Calls Try.prog 4 #[.slice a0 n c0, .slice (some x) m c, .int .i64 (m : Int)] w fun e w' => e = .returned (.bool true) ∧ Below w.heap.size w w' := by
  have hnil := fun (w : World) (a : Option Addr) (n c : Nat) => Lib.run_eql_slice_nil (P := Try.prog) w 23 9 a n c 0 0 Try.underlying23
  have HC := bytes15 a0 (some x) n c0 m c m ss w hm hmx hS
  have HC2 := fun hs => strs_any (some x) n m c ss w hm hmb hn hs hS
  have HI := ids_some x m c ss w hm hmb (fun h0 => by
    obtain ⟨b, o, hx, g⟩ := saddr_of hS (by omega)
    exact ⟨b, o, Option.some.inj hx, fun j hj => g j (by omega)⟩)
  have d1 : ¬ (1048576 : Int) < (n : Int) := by omega
  have d3 : decide ((65536 : Int) < (m : Int)) = false := decide_eq_false (by omega)
  have H := hid (And.intro hz (And.intro hn (And.intro ha (And.intro hc (And.intro hm (And.intro hmb hS))))))
  have HC2' := hid HC2
  clear hz hn ha hc hm hmb hmx hS HC2
  go_enter Try.func4, Try.ntmps4
  go_wp2_with fail
  refine HC.mono ?_
  rintro e w' ⟨⟨x', rfl, hx'⟩, hw⟩
  rw [hw]; clear hw w' HC
  cases x' with
  | false =>
    go_wp2_with fail
    go_ret
    exact ⟨rfl, Below.refl _ _⟩
  | true =>
    have HC2 := HC2'.out (hx' rfl)
    clear hx' HC2'
    go_wp2_with fail
    refine HC2.mono ?_
    rintro e w' ⟨r, rfl, hr, hw⟩
    rw [hw]; clear hw w' HC2
    by_cases hrb : r ≤ 1048576
    · have d2 : ¬ (1048576 : Int) < (r : Int) := by omega
      have HW : Hid (n + w16 ss ≤ 1048576) := hr.out.1 hrb
      clear hrb hr
      go_wp2_with fail
      refine HI.mono ?_
      rintro e w1 ⟨g, rfl, HId⟩
      clear HI
      go_wp2_with fail
      refine (clone_own a0 n c0 zs w1 H.out.1 (by have := H.out; omega) H.out.2.2.1 (H.out.2.2.2.1.below HId.out.below)).mono ?_
      rintro e w2 ⟨sv, rfl, h2, hb2⟩
      have HM := reply_some w1.heap.size n m m g 0 sv zs ss w2 h2 hb2.size H.out.2.2.2.2.1 (by have h1 := wt_le_w16 ss; have h2 := HW.out; omega)
        (fun j hj => (hb2.cell HId.out.lt).trans (HId.out.cells j hj)) (fun e => by have := (h2.lt g e).1; have := HId.out.lt; omega) (Nat.lt_of_lt_of_le HId.out.lt hb2.size)
      have HB2 := hid (And.intro h2 hb2)
      clear h2 hb2
      go_wp2_with fail
      refine HM.mono ?_
      rintro e w3 ⟨v3, rfl, g3⟩
      obtain ⟨a3, c3, rfl, hl3, -, L3, hc3⟩ := owns_lies g3.own
      have B13 : Below w1.heap.size w1 w3 := HB2.out.2.trans (g3.below HB2.out.2.size (fun k hk => (HB2.out.1.lt k hk).1))
      have B3 : Below w.heap.size w w3 := Below.then HId.out.below B13
      obtain ⟨N, hN⟩ : ∃ N, N = n + (hd 4 1 ++ (hd 4 m ++ flL ss)).length := ⟨_, rfl⟩
      rw [← hN] at hl3 hc3 ⊢
      have hNb : N ≤ 4194304 := by
        have h1 := flL_le ss
        have h2 := wt_le_w16 ss
        have h3 := HW.out
        have h4 := hd_length_le 4 1
        have h5 := hd_length_le 4 m
        rw [hN]
        simp only [List.length_append]
        omega
      obtain ⟨ys, hys⟩ : ∃ ys, ys = zs ++ (hd 4 1 ++ (hd 4 m ++ flL ss)) := ⟨_, rfl⟩
      have HP := prefix_any a3 a0 N n c3 c0 zs (hd 4 1 ++ (hd 4 m ++ flL ss)) w3 H.out.1 (by have h' := hl3; rw [List.length_append] at h'; exact h') (by have := H.out; omega) L3 (H.out.2.2.2.1.below B3)
      rw [← hys] at L3 hl3
      have H3 := hid (And.intro L3 (And.intro hl3 (And.intro B3 (And.intro hN (And.intro hNb (And.intro hys (And.intro hc3 B13)))))))
      have hlt : (n : Int) ≤ (N : Int) := by omega
      clear HM g3 L3 hl3 B3 hN hNb HB2 hys hc3 B13
      go_wp2_with fail
      refine HP.mono ?_
      rintro e w4 ⟨rfl, k4, hw4⟩
      have L4 : Lies w4 a3 ys := by rw [hw4]; exact H3.out.1
      have B4 : Below w.heap.size w w4 := by rw [hw4]; exact below_drewN' H3.out.2.2.1 k4
      have B14 : Below w1.heap.size w1 w4 := by rw [hw4]; exact below_drewN' H3.out.2.2.2.2.2.2.2 k4
      have H4 := hid (And.intro L4 (And.intro B4 B14))
      have P5 := part_any m m g 0 (ss.take m) w4 (by rw [List.length_take, H.out.2.2.2.2.1]; have := H.out; omega) (by have h1 := wt_cut ss m; have h2 := wt_le_w16 ss; have h3 := HW.out; omega) (fun j hj => (by rw [take_getD _ _ _ hj]; exact (B14.cell HId.out.lt).trans (HId.out.cells j (by have := H.out; omega)))) (Nat.lt_of_lt_of_le HId.out.lt B14.size)
      clear hw4 HP L4 B4 B14
      go_wp2_with fail
      refine P5.mono ?_
      rintro e w5 ⟨a5, N5, c5, rfl, H5⟩
      have B15 := Below.then H4.out.2.2 H5.out.2.2.1
      have P6 := part_any 0 0 g 0 (ss.drop m) w5 (by rw [List.length_drop, H.out.2.2.2.2.1]; omega) (by have h1 := wt_cut ss m; have h2 := wt_le_w16 ss; have h3 := HW.out; omega) (fun j hj => by omega) (Nat.lt_of_lt_of_le HId.out.lt B15.size)
      clear P5 B15
      go_wp2_with fail
      refine P6.mono ?_
      rintro e w6 ⟨a6, N6, c6, rfl, H6⟩
      clear P6
      have L6 : Lies w6 a3 ys := (H4.out.1.below H5.out.2.2.1).below H6.out.2.2.1
      have L65 := H5.out.1.below H6.out.2.2.1
      have L66 := H6.out.1
      have B6 : Below w.heap.size w w6 := Below.then H4.out.2.1 (Below.then H5.out.2.2.1 H6.out.2.2.1)
      obtain ⟨L1, hL1⟩ : ∃ L, L = (flL (ss.take m)).length := ⟨_, rfl⟩
      obtain ⟨L2, hL2⟩ : ∃ L, L = (flL (ss.drop m)).length := ⟨_, rfl⟩
      have hL12 : (flL ss).length = L1 + L2 := by rw [← flL_cut ss m, List.length_append, ← hL1, ← hL2]
      obtain ⟨iw, hiw⟩ : ∃ i, n + (hd 4 1).length + (hd 4 m).length = i := ⟨_, rfl⟩
      obtain ⟨ih, hih⟩ : ∃ i, 0 + (hd 4 1).length + (hd 4 m).length = i := ⟨_, rfl⟩
      obtain ⟨it, hit⟩ : ∃ i, 0 + (hd 4 1).length + (hd 4 0).length = i := ⟨_, rfl⟩
      have q1 : N - iw = L1 + L2 := by have h := H3.out.2.2.2.1; simp only [List.length_append] at h; omega
      have q2 : N5 - ih = L1 := by have h := H5.out.2.1; simp only [List.length_append] at h; omega
      have q3 : N6 - it = L2 := by have h := H6.out.2.1; simp only [List.length_append] at h; omega
      have r1 : (iw : Int) ≤ (N : Int) := by have h := H3.out.2.2.2.1; simp only [List.length_append] at h; omega
      have r2 : (ih : Int) ≤ (N5 : Int) := by have h := H5.out.2.1; simp only [List.length_append] at h; omega
      have r3 : (it : Int) ≤ (N6 : Int) := by have h := H6.out.2.1; simp only [List.length_append] at h; omega
      have E1 := items_at a3 N c3 m n iw ys zs (flL ss) w6 H3.out.2.2.2.2.1 H3.out.2.1 H.out.2.2.2.2.2.1 L6 (by rw [H3.out.2.2.2.2.2.1]; simp only [List.append_assoc]) H.out.1 hiw
      have E2 := items_at a5 N5 c5 m 0 ih _ [] (flL (ss.take m)) w6 (by have := H5.out; omega) H5.out.2.1 (by have := H.out; omega) L65 (by simp only [List.append_assoc, List.nil_append]) rfl hih
      have E3 := items_at a6 N6 c6 0 0 it _ [] (flL (ss.drop m)) w6 (by have := H6.out; omega) H6.out.2.1 (by have := H.out; omega) L66 (by simp only [List.append_assoc, List.nil_append]) rfl hit
      obtain ⟨b3, o3, rfl, -⟩ := addr_of L6 (by rw [H3.out.2.1]; have h := H3.out.2.2.2.1; have := hd_pos 4 1; simp only [List.length_append] at h; omega)
      obtain ⟨b5, o5, rfl, -⟩ := addr_of L65 (by have := hd_pos 4 1; simp only [List.length_append]; omega)
      obtain ⟨b6, o6, rfl, -⟩ := addr_of L66 (by have := hd_pos 4 1; simp only [List.length_append]; omega)
      have X1 := lies_cut (i := iw) (p := zs ++ (hd 4 1 ++ hd 4 m)) (r := flL ss) L6 H3.out.2.1 H3.out.2.2.2.2.2.2.1 (by rw [H3.out.2.2.2.2.2.1]; simp only [List.append_assoc]) (by simp only [List.length_append, H.out.1]; omega)
      have X2 := lies_cut (i := ih) (p := hd 4 1 ++ hd 4 m) (r := flL (ss.take m)) L65 H5.out.2.1 H5.out.2.2.2.1 (by simp only [List.append_assoc]) (by simp only [List.length_append]; omega)
      have X3 := lies_cut (i := it) (p := hd 4 1 ++ hd 4 0) (r := flL (ss.drop m)) L66 H6.out.2.1 H6.out.2.2.2.1 (by simp only [List.append_assoc]) (by simp only [List.length_append]; omega)
      obtain ⟨A1, hA1⟩ : ∃ A, (if c3 = iw then some (⟨b3, o3, none⟩ : Addr) else some ⟨b3, o3 + iw, none⟩) = A := ⟨_, rfl⟩
      obtain ⟨A2, hA2⟩ : ∃ A, (if c5 = ih then some (⟨b5, o5, none⟩ : Addr) else some ⟨b5, o5 + ih, none⟩) = A := ⟨_, rfl⟩
      obtain ⟨A3, hA3⟩ : ∃ A, (if c6 = it then some (⟨b6, o6, none⟩ : Addr) else some ⟨b6, o6 + it, none⟩) = A := ⟨_, rfl⟩
      rw [hA1] at X1
      rw [hA2] at X2
      rw [hA3] at X3
      have HX := hid (And.intro X1 (And.intro X2 X3))
      have HL := hid (And.intro hL1 (And.intro hL2 hL12))
      have HB6 := hid B6
      clear L6 L65 L66 B6 hL1 hL2 hL12 hiw hih hit X1 X2 X3
      go_wp2_with fail
      refine E1.mono ?_
      rintro e w' ⟨rfl, hw⟩
      rw [hw]; clear hw w' E1
      go_wp2_with fail
      refine E2.mono ?_
      rintro e w' ⟨rfl, hw⟩
      rw [hw]; clear hw w' E2
      go_wp2_with fail
      refine E3.mono ?_
      rintro e w' ⟨rfl, hw⟩
      rw [hw]; clear hw w' E3
      have CT : ∀ (W : World), Lies W A2 (flL (ss.take m)) → Lies W A3 (flL (ss.drop m)) → Calls Try.prog 18 #[.slice A2 L1 (c5 - ih), .slice A3 L2 (c6 - it)] W fun e w' => ∃ a c, e = .returned (.slice a (L1 + L2) c) ∧ Hid (Lies w' a (flL ss) ∧ Below W.heap.size W w') := fun W h2 h3 => by
        have := cat_any A2 A3 L1 L2 (c5 - ih) (c6 - it) _ _ W HL.out.1.symm HL.out.2.1.symm (by have h := HL.out.2.2; have := H3.out; have h' := H3.out.2.2.2.1; simp only [List.length_append] at h'; omega) h2 h3
        rw [flL_cut] at this
        exact this
      have CT7 := CT w6.drew HX.out.2.1 HX.out.2.2
      clear CT
      go_wp2_with fail
      go_region_held3 (fun _ => True) (trivial) (first
        | (go_at_call 18; refine CT7.mono ?_; rintro e w8 ⟨a8, c8, rfl, H8⟩; have EQ := equal_any A1 a8 (L1 + L2) (c3 - iw) c8 (flL ss) w8 HL.out.2.2 (by have h := HL.out.2.2; have := H3.out; have h' := H3.out.2.2.2.1; simp only [List.length_append] at h'; omega) (Lies.below (w := w6) HX.out.1 ⟨H8.out.2.os, H8.out.2.tape, H8.out.2.output, H8.out.2.size, H8.out.2.block⟩) H8.out.1)
        | (go_at_call 17; refine EQ.mono ?_; rintro e w9 ⟨rfl, k9, hw9⟩; rw [hw9]; clear hw9 w9))
      go_wp2
      go_ret
      exact ⟨rfl, below_drewN' (Below.then HB6.out ⟨H8.out.2.os, H8.out.2.tape, H8.out.2.output, H8.out.2.size, H8.out.2.block⟩) k9⟩
    · have d2 : (1048576 : Int) < (r : Int) := by omega
      clear hrb hr
      go_wp2_with fail
      go_ret
      exact ⟨rfl, Below.refl _ _⟩
theorem law4_any (a0 a1 : Option Addr) (n c0 m c : Nat) (x : Int) (zs : List Int) (ss : List ByteArray) (w : World) (hz : zs.length = n) (ha : a0 = none → n = 0 ∧ c0 = 0) (hc : Lies w a0 zs)
    (hm : ss.length = m) (ha1 : a1 = none → m = 0 ∧ c = 0) (hmx : ∀ j, j < m → (ss.getD j ByteArray.empty).size ≤ maxLen) (hS : SLies w a1 ss) :
    Calls Try.prog 4 #[.slice a0 n c0, .slice a1 m c, .int .i64 x] w fun e w' => e = .returned (.bool true) ∧ Below w.heap.size w w' := by
  by_cases he : n ≤ 1048576 ∧ m ≤ 65536
  · by_cases hx : x < 0 ∨ (m : Int) < x
    · exact law4_out a0 a1 n c0 m c x ss w he.1 hm he.2 hmx hS hx
    · obtain ⟨p, rfl⟩ := Int.eq_ofNat_of_zero_le (show 0 ≤ x by omega)
      cases a1 with
      | none =>
        obtain ⟨rfl, rfl⟩ := ha1 rfl
        obtain rfl : p = 0 := by omega
        obtain rfl := List.eq_nil_of_length_eq_zero hm
        exact law4_nil a0 n c0 zs w hz he.1 ha hc
      | some y =>
        by_cases hp : p < m
        · exact law4_lt a0 n c0 m c p (m - p) y zs ss w hz he.1 ha hc hm he.2 hmx hS hp (by omega)
        · obtain rfl : p = m := by omega
          exact law4_eq a0 n c0 p c y zs ss w hz he.1 ha hc hm he.2 hmx hS
  · exact law4_early a0 a1 n c0 m c x ss w hm hmx hS he
end Go.Proofs.Qxb6608763a
