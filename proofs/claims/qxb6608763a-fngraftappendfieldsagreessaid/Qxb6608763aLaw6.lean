/-
  Seat b6608763a: the walk of FnGraftAppendFieldsAgrees. By an AI agent.
-/
import Derived.Test.Qxb6608763aCat
import Derived.Test.Qxb6608763aReply
namespace Go.Proofs.Qxb6608763a
open Go.RowKit

set_option maxHeartbeats 400000 in
theorem bytes22 (a : Option Addr) (n c : Nat) (x1 : Bool) (s : ByteArray) (x3 x4 : Int) (w : World) :
    Calls Try.prog 22 #[.slice a n c, .bool x1, .string s, .int .u64 x3, .int .u32 x4] w fun e w' => e = .returned (.bool (decide (n + s.size ≤ 1048576))) ∧ w' = w := by
  by_cases h1 : n ≤ 1048576
  · have d1 : ¬ (1048576 : Int) < (n : Int) := by omega
    by_cases h2 : s.size ≤ 1048576
    · have d2 : ¬ (1048576 : Int) < (s.size : Int) := by omega
      by_cases h3 : n + s.size ≤ 1048576
      · have d3 : ¬ (1048576 : Int) < (n : Int) + (s.size : Int) := by omega
        rw [decide_eq_true h3]
        have H := hid (And.intro h1 (And.intro h2 h3))
        clear h1 h2 h3
        go_enter Try.func22, Try.ntmps22
        go_wp2
        go_ret
        exact ⟨rfl, rfl⟩
      · have d3 : (1048576 : Int) < (n : Int) + (s.size : Int) := by omega
        rw [decide_eq_false h3]
        go_enter Try.func22, Try.ntmps22
        go_wp2
        go_ret
        exact ⟨rfl, rfl⟩
    · have d2 : (1048576 : Int) < (s.size : Int) := by omega
      rw [decide_eq_false (by omega)]
      go_enter Try.func22, Try.ntmps22
      go_wp2
      go_ret
      exact ⟨rfl, rfl⟩
  · have d1 : (1048576 : Int) < (n : Int) := by omega
    rw [decide_eq_false (by omega)]
    go_enter Try.func22, Try.ntmps22
    go_wp2
    go_ret
    exact ⟨rfl, rfl⟩

theorem law6_no (a : Option Addr) (n c : Nat) (has : Bool) (s : ByteArray) (q hp : Int) (w : World) (hn : ¬ n + s.size ≤ 1048576) :
    Calls Try.prog 6 #[.slice a n c, .bool has, .string s, .int .u64 q, .int .u32 hp] w fun e w' => e = .returned (.bool true) ∧ Below w.heap.size w w' := by
  have HC := bytes22 a n c has s q hp w
  rw [decide_eq_false hn] at HC
  go_enter Try.func6, Try.ntmps6
  go_wp2_with fail
  refine HC.mono ?_
  rintro e w' ⟨rfl, hw⟩
  rw [hw]; clear hw w' HC
  go_wp2_with fail
  go_ret
  exact ⟨rfl, Below.refl _ _⟩

/-- A Graft written onto nothing. -/
theorem graft_nil {B q hp : Nat} {has : Bool} {v : Value} {s : ByteArray} {w : World} (hG : Gr w B has v s (q : Int) (hp : Int)) (hs : s.size ≤ 1048576) (hq : q < 18446744073709551616) (hh : hp < 4294967296) :
    Calls Try.prog 20 #[v, .slice none 0 0] w fun e w' => ∃ a c, e = .returned (.slice a (grL has s q hp).length c) ∧ Hid (Lies w' a (grL has s q hp) ∧ Below w.heap.size w w') := by
  refine (made (zs := []) hG (World.ownsRow_nil w w.heap.size 5 1) (Below.refl _ _) (Below.refl _ _) (Nat.zero_le _) hs hq hh).mono ?_
  rintro e w' ⟨a, c, rfl, h1, h2, h3⟩
  rw [List.nil_append] at h1
  exact ⟨a, c, by rw [Nat.zero_add], h1, h3⟩

/-! ### What is written tells the numbers -/
theorem be_inj : ∀ (n v u : Nat), v < 256 ^ n → u < 256 ^ n → be n v = be n u → v = u
  | 0, v, u, hv, hu, _ => by simp at hv hu; omega
  | n + 1, v, u, hv, hu, h => by
    rw [be_succ, be_succ] at h
    have h1 := List.append_inj h (by simp [be_length])
    have hp : 256 ^ (n + 1) = 256 ^ n * 256 := Nat.pow_succ ..
    have h2 := be_inj n (v / 256) (u / 256) (by rw [Nat.div_lt_iff_lt_mul (by omega)]; omega) (by rw [Nat.div_lt_iff_lt_mul (by omega)]; omega) h1.1
    have h3 : ((v % 256 : Nat) : Int) = ((u % 256 : Nat) : Int) := by have := h1.2; simpa using this
    omega

theorem hd_inj (v u : Nat) (hv : v < 4294967296) (hu : u < 4294967296) (h : hd 0 v = hd 0 u) : v = u := by
  unfold hd at h
  have p1 : (256 : Nat) ^ 1 = 256 := rfl
  have p2 : (256 : Nat) ^ 2 = 65536 := rfl
  have p4 : (256 : Nat) ^ 4 = 4294967296 := rfl
  repeat' split at h
  all_goals
    first
    | omega
    | (rw [List.cons.injEq] at h
       obtain ⟨h1, h2⟩ := h
       first
       | (exfalso; omega)
       | omega
       | exact be_inj 1 v u (by omega) (by omega) h2
       | exact be_inj 2 v u (by omega) (by omega) h2
       | exact be_inj 4 v u (by omega) (by omega) h2)

theorem grL_differ (s : ByteArray) (q v u : Nat) (hv : v < 4294967296) (hu : u < 4294967296) (h : v ≠ u) : grL true s q v ≠ grL true s q u := by
  intro e
  unfold grL annL at e
  simp only [if_true] at e
  exact h (hd_inj v u hv hu (List.append_cancel_left (List.append_cancel_left e)))

theorem grL_long (s : ByteArray) (q hp : Nat) : 2 < (grL true s q hp).length := by
  unfold grL annL
  have h1 := hd_pos 4 1
  have h2 := hd_pos 4 2
  simp only [if_true, List.length_append]
  omega

theorem grL_opens (s : ByteArray) (q hp : Nat) : (grL true s q hp).getD 0 0 = 129 ∧ (grL true s q hp).getD 1 0 = 130 := ⟨rfl, rfl⟩

theorem grL_le (has : Bool) (s : ByteArray) (q hp : Nat) : (grL has s q hp).length ≤ 54 + s.size := by
  unfold grL annL
  have := hd_length_le 4 1
  have := hd_length_le 4 2
  have := hd_length_le 3 s.size
  have := hd_length_le 0 q
  have := hd_length_le 0 hp
  cases has <;> simp [sb_length] <;> omega

set_option maxRecDepth 100000 in
set_option maxHeartbeats 1000000 in
theorem law6_null (a : Option Addr) (n c q hp : Nat) (s : ByteArray) (zs : List Int) (w : World) (hz : zs.length = n) (hn : n + s.size ≤ 1048576) (ha : a = none → n = 0 ∧ c = 0) (hc : Lies w a zs) (hq : q < 18446744073709551616) (hh : hp < 4294967296) :
    Calls Try.prog 6 #[.slice a n c, .bool false, .string s, .int .u64 (q : Int), .int .u32 (hp : Int)] w fun e w' => e = .returned (.bool true) ∧ Below w.heap.size w w' := by
  have HC := bytes22 a n c false s q hp w
  rw [decide_eq_true hn] at HC
  have d1 : ¬ (1048576 : Int) < (n : Int) := by omega
  have d2 : ¬ (1048576 : Int) < (s.size : Int) := by omega
  have d3 : ¬ (1048576 : Int) < (n : Int) + (s.size : Int) := by omega
  have H := hid (And.intro hz (And.intro hn (And.intro ha (And.intro hc (And.intro hq hh)))))
  clear hz hn ha hc hq hh
  go_enter Try.func6, Try.ntmps6
  go_wp2_with fail
  refine HC.mono ?_
  rintro e w' ⟨rfl, hw⟩
  rw [hw]; clear hw w' HC
  go_wp2_with fail
  refine (mk_any false s (q : Int) (hp : Int) w).mono ?_
  rintro e w1 ⟨v, rfl, hG, hb1⟩
  obtain ⟨pp, rfl⟩ := hG.form
  have HG := hid (And.intro hG hb1)
  clear hG hb1
  go_wp2
  have c0 : (w1.alloc (.cells #[.pointer pp] 43)).cell? ⟨w1.heap.size, 0, none⟩ = some (.pointer pp) := by rw [World.cell?_alloc_new]; rfl
  have HB : Hid (Gr (w1.alloc (.cells #[.pointer pp] 43)) 0 false (.agg #[.pointer pp]) s (q : Int) (hp : Int) ∧ Below w.heap.size w (w1.alloc (.cells #[.pointer pp] 43)) ∧ w1.heap.size < (w1.alloc (.cells #[.pointer pp] 43)).heap.size) :=
    ⟨(HG.out.1.below ((Below.refl _ _).alloc (Nat.le_refl _) _)).zero, HG.out.2.alloc HG.out.2.size _, by simp⟩
  obtain ⟨g, hg⟩ : ∃ g, g = w1.heap.size := ⟨_, rfl⟩
  rw [← hg] at c0 HB
  simp only [← hg]
  generalize w1.alloc (.cells #[.pointer pp] 43) = W at *
  clear HG hg
  have LW : Lies W a zs := H.out.2.2.2.1.below HB.out.2.1
  have HC := clone_own a n c zs W.drew H.out.1 (by have := H.out; omega) H.out.2.2.1 LW
  have HLW := hid LW
  clear LW
  go_region_with (first
    | (go_at_call 11; refine HC.mono ?_; rintro e w2 ⟨sv, rfl, h2, hb2⟩; have c2 : w2.cell? ⟨g, 0, none⟩ = some (.pointer pp) := (hb2.cell HB.out.2.2).trans c0; have HM := made (w := W) (w1 := W) HB.out.1 h2 ⟨hb2.os, hb2.tape, hb2.output, hb2.size, hb2.block⟩ (Below.refl _ _) (by have := H.out; omega) (by have := H.out; omega) H.out.2.2.2.2.1 H.out.2.2.2.2.2; clear h2 hb2)
    | (go_at_call 20; refine HM.mono ?_; rintro e w3 ⟨a3, c3, rfl, H3⟩))
  all_goals
    clear HM HC c2
    have c3' : w3.cell? ⟨g, 0, none⟩ = some (.pointer pp) := (H3.out.2.2.cell HB.out.2.2).trans c0
    have HN := graft_nil (HB.out.1.below H3.out.2.2) (by have := H.out; omega) H.out.2.2.2.2.1 H.out.2.2.2.2.2
    obtain ⟨N, hN⟩ : ∃ N, N = n + (grL false s q hp).length := ⟨_, rfl⟩
    rw [← hN] at H3 ⊢
    have hg2 : (grL false s q hp).length = 2 := rfl
    have HG2 := hid hg2
    rw [hg2] at HN
    have HNN := hid hN
    clear hN hg2
    go_wp2_with fail
    refine HN.mono ?_
    rintro e w4 ⟨a4, c4, rfl, H4⟩
    clear HN c3' c0
    have L4 : Lies w4 a zs := (HLW.out.below H3.out.2.2).below H4.out.2
    have HCAT := cat_any a a4 n 2 c c4 zs (grL false s q hp) w4 H.out.1 rfl (by have := H.out; omega) L4 H4.out.1
    have HNe : n + 2 = N := by rw [HNN.out, HG2.out]
    rw [HNe] at HCAT
    have HNE := hid HNe
    have HL4 := hid (And.intro L4 (H3.out.1.below H4.out.2))
    clear HNe L4
    go_wp2_with fail
    refine HCAT.mono ?_
    rintro e w5 ⟨a5, c5, rfl, H5⟩
    clear HCAT
    have HE := equal_any a3 a5 N c3 c5 (zs ++ grL false s q hp) w5 (by rw [H3.out.2.1, HNN.out]) (by have := H.out; have := HNE.out; omega) (HL4.out.2.below H5.out.2) H5.out.1
    go_wp2_with fail
    refine HE.mono ?_
    rintro e w6 ⟨rfl, k6, hw6⟩
    have B6 : Below w4.heap.size w4 w6 := by rw [hw6]; exact below_drewN' H5.out.2 k6
    have HB6 := hid B6
    have HC7 := clone_own a n c zs w6 H.out.1 (by have := H.out; omega) H.out.2.2.1 (HL4.out.1.below B6)
    clear HE hw6 H5 B6
    go_wp2_with fail
    refine HC7.mono ?_
    rintro e w7 ⟨sv, rfl, h7, hb7⟩
    have HR := reply_nil w6.heap.size n sv zs w7 h7 hb7.size (by have := H.out; omega)
    have H7 := hid (And.intro h7 hb7)
    clear h7 hb7 HC7
    go_wp2_with fail
    refine HR.mono ?_
    rintro e w8 ⟨v8, rfl, g8⟩
    obtain ⟨a8, c8, rfl, hl8, -, L8, -⟩ := owns_lies g8.own
    have B8 : Below w6.heap.size w6 w8 := H7.out.2.trans (g8.below H7.out.2.size (fun k hk => (H7.out.1.lt k hk).1))
    have hl2 : (hd 4 1 ++ [246]).length = 2 := rfl
    rw [hl2, HNE.out] at hl8 ⊢
    have B48 : Below w4.heap.size w4 w8 := Below.then HB6.out B8
    have HE := equal_any a3 a8 N c3 c8 (zs ++ grL false s q hp) w8 (by rw [H3.out.2.1, HNN.out]) (by have := H.out; have := HNE.out; omega) (HL4.out.2.below B48) L8
    have HB8 := hid (And.intro B48 (H4.out.1.below B48))
    clear B48 B8 L8 hl8 hl2 g8 HR
    go_wp2_with fail
    refine HE.mono ?_
    rintro e w9 ⟨rfl, k9, hw9⟩
    clear HE
    have L9 : Lies w9 a4 (grL false s q hp) := by rw [hw9]; exact HB8.out.2
    have B9 : Below w.heap.size w w9 := by
      rw [hw9]
      exact below_drewN' (Below.then HB.out.2.1 (Below.then H3.out.2.2 (Below.then H4.out.2 HB8.out.1))) k9
    obtain ⟨b4, o4, rfl, g4⟩ := addr_of L9 (by rw [HG2.out]; omega)
    have e0 : w9.cell? ⟨b4, o4, none⟩ = some (.int .u8 129) := g4 0 (by rw [HG2.out]; omega)
    have e1 : w9.cell? ⟨b4, o4 + 1, none⟩ = some (.int .u8 246) := g4 1 (by rw [HG2.out]; omega)
    have HB9 := hid B9
    clear B9 L9 g4 hw9
    go_wp2
    go_ret
    exact ⟨rfl, HB9.out⟩
set_option maxRecDepth 100000 in
set_option maxHeartbeats 1000000 in
theorem law6_of (a : Option Addr) (n c q hp : Nat) (s : ByteArray) (zs : List Int) (w : World) (hz : zs.length = n) (hn : n + s.size ≤ 1048576) (ha : a = none → n = 0 ∧ c = 0) (hc : Lies w a zs) (hq : q < 18446744073709551616) (hh : hp < 4294967296) :
    Calls Try.prog 6 #[.slice a n c, .bool true, .string s, .int .u64 (q : Int), .int .u32 (hp : Int)] w fun e w' => e = .returned (.bool true) ∧ Below w.heap.size w w' := by
  have HC := bytes22 a n c true s q hp w
  rw [decide_eq_true hn] at HC
  have d1 : ¬ (1048576 : Int) < (n : Int) := by omega
  have d2 : ¬ (1048576 : Int) < (s.size : Int) := by omega
  have d3 : ¬ (1048576 : Int) < (n : Int) + (s.size : Int) := by omega
  have H := hid (And.intro hz (And.intro hn (And.intro ha (And.intro hc (And.intro hq hh)))))
  clear hz hn ha hc hq hh
  go_enter Try.func6, Try.ntmps6
  go_wp2_with fail
  refine HC.mono ?_
  rintro e w' ⟨rfl, hw⟩
  rw [hw]; clear hw w' HC
  go_wp2_with fail
  refine (mk_any true s (q : Int) (hp : Int) w).mono ?_
  rintro e w1 ⟨v, rfl, hG, hb1⟩
  obtain ⟨pp, rfl⟩ := hG.form
  have HG := hid (And.intro hG hb1)
  clear hG hb1
  go_wp2
  have c0 : (w1.alloc (.cells #[.pointer pp] 43)).cell? ⟨w1.heap.size, 0, none⟩ = some (.pointer pp) := by rw [World.cell?_alloc_new]; rfl
  have HB : Hid (Gr (w1.alloc (.cells #[.pointer pp] 43)) 0 true (.agg #[.pointer pp]) s (q : Int) (hp : Int) ∧ Below w.heap.size w (w1.alloc (.cells #[.pointer pp] 43)) ∧ w1.heap.size < (w1.alloc (.cells #[.pointer pp] 43)).heap.size) :=
    ⟨(HG.out.1.below ((Below.refl _ _).alloc (Nat.le_refl _) _)).zero, HG.out.2.alloc HG.out.2.size _, by simp⟩
  obtain ⟨g, hg⟩ : ∃ g, g = w1.heap.size := ⟨_, rfl⟩
  rw [← hg] at c0 HB
  simp only [← hg]
  generalize w1.alloc (.cells #[.pointer pp] 43) = W at *
  clear HG hg
  have LW : Lies W a zs := H.out.2.2.2.1.below HB.out.2.1
  have HC := clone_own a n c zs W.drew H.out.1 (by have := H.out; omega) H.out.2.2.1 LW
  have HLW := hid LW
  clear LW
  go_region_with (first
    | (go_at_call 11; refine HC.mono ?_; rintro e w2 ⟨sv, rfl, h2, hb2⟩; have c2 : w2.cell? ⟨g, 0, none⟩ = some (.pointer pp) := (hb2.cell HB.out.2.2).trans c0; have HM := made (w := W) (w1 := W) HB.out.1 h2 ⟨hb2.os, hb2.tape, hb2.output, hb2.size, hb2.block⟩ (Below.refl _ _) (by have := H.out; omega) (by have := H.out; omega) H.out.2.2.2.2.1 H.out.2.2.2.2.2; clear h2 hb2)
    | (go_at_call 20; refine HM.mono ?_; rintro e w3 ⟨a3, c3, rfl, H3⟩))
  all_goals
    clear HM HC c2
    have c3' : w3.cell? ⟨g, 0, none⟩ = some (.pointer pp) := (H3.out.2.2.cell HB.out.2.2).trans c0
    have HN := graft_nil (HB.out.1.below H3.out.2.2) (by have := H.out; omega) H.out.2.2.2.2.1 H.out.2.2.2.2.2
    obtain ⟨N, hN⟩ : ∃ N, N = n + (grL true s q hp).length := ⟨_, rfl⟩
    rw [← hN] at H3 ⊢
    have hg2 : 2 < (grL true s q hp).length := grL_long s q hp
    obtain ⟨M, hM⟩ : ∃ M, M = (grL true s q hp).length := ⟨_, rfl⟩
    have hMb : M ≤ 2097152 := by rw [hM]; exact Nat.le_trans (grL_le true s q hp) (by have := H.out; omega)
    rw [← hM] at HN hg2
    have HG2 := hid (And.intro hM (And.intro hg2 hMb))
    have HNN := hid hN
    clear hN hg2 hM hMb
    go_wp2_with fail
    refine HN.mono ?_
    rintro e w4 ⟨a4, c4, rfl, H4⟩
    clear HN c3' c0
    have L4 : Lies w4 a zs := (HLW.out.below H3.out.2.2).below H4.out.2
    have HCAT := cat_any a a4 n M c c4 zs (grL true s q hp) w4 H.out.1 HG2.out.1.symm (by have := H.out; have := HG2.out; omega) L4 H4.out.1
    have HNe : n + M = N := by rw [HNN.out, HG2.out.1]
    rw [HNe] at HCAT
    have HNE := hid HNe
    have HL4 := hid (And.intro L4 (H3.out.1.below H4.out.2))
    clear HNe L4
    go_wp2_with fail
    refine HCAT.mono ?_
    rintro e w5 ⟨a5, c5, rfl, H5⟩
    clear HCAT
    have HE := equal_any a3 a5 N c3 c5 (zs ++ grL true s q hp) w5 (by rw [H3.out.2.1, HNN.out]) (by have := H.out; have := HNE.out; have := HG2.out; omega) (HL4.out.2.below H5.out.2) H5.out.1
    go_wp2_with fail
    refine HE.mono ?_
    rintro e w6 ⟨rfl, k6, hw6⟩
    have B6 : Below w4.heap.size w4 w6 := by rw [hw6]; exact below_drewN' H5.out.2 k6
    have HB6 := hid B6
    clear HE hw6 H5 B6
    obtain ⟨hq', hhq⟩ : ∃ x : Nat, x = (hp + 1) % 4294967296 := ⟨_, rfl⟩
    have hwr : ((hp : Int) + 1) % 4294967296 = (hq' : Int) := by omega
    have HQ := hid hhq
    clear hhq
    go_wp2_with fail
    refine (mk_any true s (q : Int) (hq' : Int) w6).mono ?_
    rintro e w7 ⟨v7, rfl, G7, hb7⟩
    obtain ⟨p7, rfl⟩ := G7.form
    have HN8 := graft_nil G7 (by have := H.out; omega) H.out.2.2.2.2.1 (by have := HQ.out; omega)
    obtain ⟨M8, hM8⟩ : ∃ M, M = (grL true s q hq').length := ⟨_, rfl⟩
    rw [← hM8] at HN8
    have HM8 := hid hM8
    have HB7 := hid hb7
    clear G7 hM8 hb7
    go_wp2_with fail
    refine HN8.mono ?_
    rintro e w8 ⟨a8, c8, rfl, H8⟩
    clear HN8
    have HN9 := graft_nil (B := 0) (q := q) (hp := hp) (has := false) (v := .agg #[.pointer none]) (s := s) (w := w8) (.inl ⟨rfl, rfl⟩) (by have := H.out; omega) H.out.2.2.2.2.1 H.out.2.2.2.2.2
    have hl9 : (grL false s q hp).length = 2 := rfl
    rw [hl9] at HN9
    clear hl9
    go_wp2_with fail
    refine HN9.mono ?_
    rintro e w9 ⟨a9, c9, rfl, H9⟩
    clear HN9
    have B49 : Below w4.heap.size w4 w9 := Below.then HB6.out (Below.then HB7.out (Below.then H8.out.2 H9.out.2))
    have L9 : Lies w9 a4 (grL true s q hp) := H4.out.1.below B49
    have D1 := differ_any a4 a8 M M8 c4 c8 (grL true s q hp) (grL true s q hq') w9 HG2.out.1.symm HM8.out.symm (by have := HG2.out; omega) (grL_differ s q hp hq' H.out.2.2.2.2.2 (by have := HQ.out; omega) (by have := HQ.out; omega)) L9 (H8.out.1.below H9.out.2)
    have D2 : ∀ k, Calls Try.prog 17 #[.slice a4 M c4, .slice a9 2 c9] (w9.drewN k) fun e w' => e = .returned (.bool false) ∧ ∃ k', w' = (w9.drewN k).drewN k' := fun k =>
      differ_any a4 a9 M 2 c4 c9 (grL true s q hp) (grL false s q hp) (w9.drewN k) HG2.out.1.symm rfl (by have := HG2.out; omega) (fun e => by have h1 := grL_long s q hp; have h2 : (grL false s q hp).length = 2 := rfl; rw [e, h2] at h1; omega) (L9.drewN k) (H9.out.1.drewN k)
    have HB9 : Hid (Below w.heap.size w w9) := Below.then HB.out.2.1 (Below.then H3.out.2.2 (Below.then H4.out.2 B49))
    obtain ⟨b4, o4, rfl, g4⟩ := addr_of L9 (by rw [← HG2.out.1]; have := HG2.out; omega)
    obtain ⟨e0', e1'⟩ := grL_opens s q hp
    have e0 : w9.cell? ⟨b4, o4, none⟩ = some (.int .u8 129) := by rw [← e0']; exact g4 0 (by rw [← HG2.out.1]; have := HG2.out; omega)
    have e1 : w9.cell? ⟨b4, o4 + 1, none⟩ = some (.int .u8 130) := by rw [← e1']; exact g4 1 (by rw [← HG2.out.1]; have := HG2.out; omega)
    have hM0 : (0 : Int) < (M : Int) := by have := HG2.out; omega
    have hM1 : (1 : Int) < (M : Int) := by have := HG2.out; omega
    have hM2 : (2 : Int) ≤ (M : Int) := by have := HG2.out; omega
    have HD2 := hid D2
    clear D2 L9 g4 B49 e0' e1'
    go_wp2_with fail
    refine D1.mono ?_
    rintro e w' ⟨rfl, k10, hw⟩
    rw [hw]; clear hw w' D1
    have D2 := HD2.out k10
    go_wp2_with fail
    refine D2.mono ?_
    rintro e w' ⟨rfl, k11, hw⟩
    rw [hw]; clear hw w' D2
    go_wp2
    go_ret
    exact ⟨rfl, below_drewN' HB9.out (k10 + k11)⟩

theorem law6_any (a : Option Addr) (n c : Nat) (has : Bool) (q hp : Int) (s : ByteArray) (zs : List Int) (w : World) (hz : zs.length = n) (ha : a = none → n = 0 ∧ c = 0) (hc : Lies w a zs) (hq : 0 ≤ q ∧ q ≤ 18446744073709551615) (hh : 0 ≤ hp ∧ hp ≤ 4294967295) :
    Calls Try.prog 6 #[.slice a n c, .bool has, .string s, .int .u64 q, .int .u32 hp] w fun e w' => e = .returned (.bool true) ∧ Below w.heap.size w w' := by
  obtain ⟨q', rfl⟩ := Int.eq_ofNat_of_zero_le hq.1
  obtain ⟨h', rfl⟩ := Int.eq_ofNat_of_zero_le hh.1
  by_cases hn : n + s.size ≤ 1048576
  · cases has with
    | false => exact law6_null a n c q' h' s zs w hz hn ha hc (by omega) (by omega)
    | true => exact law6_of a n c q' h' s zs w hz hn ha hc (by omega) (by omega)
  · exact law6_no a n c has s _ _ w hn
end Go.Proofs.Qxb6608763a
