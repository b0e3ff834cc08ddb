/-
  Seat b6608763a: AppendArrayHead, AppendUint, AppendText, appendMessageID, AppendAnnounced. By an AI agent.
-/
import Derived.Test.Qxb6608763aHead
namespace Go.Proofs.Qxb6608763a
open Go.RowKit

/-- The bytes of a string as numbers. -/
def sb (s : ByteArray) : List Int := s.data.toList.map fun b => (b.toNat : Int)
theorem sb_length (s : ByteArray) : (sb s).length = s.size := by simp [sb]
theorem sb_cells (s : ByteArray) : Lib.strCells s = bc (sb s) := by
  unfold Lib.strCells bc sb
  simp

theorem Fine.cell {B n : Nat} {w w' : World} {sv v' : Value} {xs : List Value} (h : Fine B w w' sv v' n xs) {a : Addr} {u : Value} (hc : w.cell? a = some u) (hne : sv.ownBlock ≠ some a.block) : w'.cell? a = some u :=
  h.grown.cell hc (fun e => hne e.symm)

theorem Fine.cast {B n n' : Nat} {w w' : World} {sv v' : Value} {zs zs' : List Int} (h : Fine B w w' sv v' n (bc zs)) (hn : n = n') (hz : zs = zs') : Fine B w w' sv v' n' (bc zs') := by
  subst hn
  subst hz
  exact h

theorem str_eq (B n : Nat) (sv : Value) (zs : List Int) (s : ByteArray) (w : World) (h : w.ownsRow B 5 1 sv n (bc zs)) (hB : B ≤ w.heap.size) (hn : n + s.size ≤ 8388608) :
    ∃ v' w', (Builtin.append_ #[22, 9] 22 #[sv, .string s]).run Try.prog w = .ok v' w' ∧ Grew B w w' sv v' (n + s.size) (zs ++ sb s) := by
  obtain ⟨i, hi, hzz⟩ := Option.map_eq_some_iff.1 Try.info5
  simp only [Prod.mk.injEq] at hzz
  obtain ⟨hz, hs, hb⟩ := hzz
  have hbig : n + s.size ≤ maxLen := by unfold maxLen; omega
  rcases h.2 with ⟨rfl, rfl⟩ | ⟨g, cap, cur, rfl, hbg, hg, hnc, hcm, hcs, htake⟩
  · have hx : zs = [] := by
      have := h.1
      simp [bc_length] at this
      exact this
    subst hx
    obtain ⟨v', w', h1, h2, h3, _⟩ := Lib.run_append_own_string (P := Try.prog) w w.heap.size 22 9 22 5 i Try.underlying22 Try.underlying9 hi hz hs hb (.slice none 0 0) 0 (bc []) (World.ownsRow_nil _ _ _ _) s hbig (by omega) (Nat.le_refl _)
    refine ⟨v', w', h1, ?_, h3, fun k hk => .inr (owns_block h2 k hk)⟩
    rw [bc_append, ← sb_cells]
    exact owns_ge h2 hB
  · obtain ⟨v', w', h1, h2, h3, _⟩ := Lib.run_append_own_string (P := Try.prog) w B 22 9 22 5 i Try.underlying22 Try.underlying9 hi hz hs hb _ n (bc zs) h s hbig (by omega) hB
    refine ⟨v', w', h1, ?_, h3, fun k hk => ?_⟩
    · rw [bc_append, ← sb_cells]
      exact h2
    · by_cases hroom : n + s.size ≤ cap
      · have hr := Lib.run_append_room_string (P := Try.prog) w 22 9 22 5 i Try.underlying22 Try.underlying9 hi hs g n cap cur hg s hroom (by simp at hcs; omega)
        have := h1.symm.trans hr
        injection this with this _
        rw [this] at hk
        exact .inl hk
      · have holds : ∀ j u, (bc zs)[j]? = some u → w.cell? ((⟨g, 0, none⟩ : Addr).add j) = some u := h.cells (g := g) rfl
        have hr := Lib.run_append_grow_string (P := Try.prog) w 22 9 22 5 i (.int .u8 0) Try.underlying22 Try.underlying9 hi hz ⟨g, 0, none⟩ n cap (bc zs) (by rw [hs]; exact h.1) holds s (by omega) (by omega) (by rw [hb]; exact growslice_fits (by omega) (by omega))
        have := h1.symm.trans hr
        injection this with this _
        rw [this] at hk
        simp [Value.ownBlock] at hk
        exact .inr (by omega)

theorem arr_any (B c n : Nat) (sv : Value) (zs : List Int) (w : World) (h : w.ownsRow B 5 1 sv n (bc zs)) (hB : B ≤ w.heap.size) (hn : n ≤ 4194304) (hc : c < 9223372036854775808) :
    Calls Try.prog 27 #[sv, .int .i64 (c : Int)] w fun e w' => ∃ v', e = .returned v' ∧ Grew B w w' sv v' (n + (hd 4 c).length) (zs ++ hd 4 c) := by
  have HC := head_any B 4 c n sv zs w h hB hn (by omega) (by omega)
  obtain ⟨a, cp, rfl, -, -, -, -⟩ := owns_lies h
  have hw : (c : Int) % 18446744073709551616 = (c : Int) := by omega
  clear hc h
  go_enter Try.func27, Try.ntmps27
  go_wp2_with fail
  refine HC.mono ?_
  rintro e w' ⟨v', rfl, hG⟩
  have HG := hid hG
  clear hG HC
  go_wp2
  go_ret
  exact ⟨_, rfl, HG.out⟩

theorem uint_any (B v n : Nat) (sv : Value) (zs : List Int) (w : World) (h : w.ownsRow B 5 1 sv n (bc zs)) (hB : B ≤ w.heap.size) (hn : n ≤ 4194304) (hv : v < 18446744073709551616) :
    Calls Try.prog 33 #[sv, .int .u64 (v : Int)] w fun e w' => ∃ v', e = .returned v' ∧ Grew B w w' sv v' (n + (hd 0 v).length) (zs ++ hd 0 v) := by
  have HC := head_any B 0 v n sv zs w h hB hn (by omega) hv
  obtain ⟨a, cp, rfl, -, -, -, -⟩ := owns_lies h
  clear hv h
  go_enter Try.func33, Try.ntmps33
  go_wp2_with fail
  refine HC.mono ?_
  rintro e w' ⟨v', rfl, hG⟩
  have HG := hid hG
  clear hG HC
  go_wp2
  go_ret
  exact ⟨_, rfl, HG.out⟩

theorem text_any (B n : Nat) (sv : Value) (zs : List Int) (s : ByteArray) (w : World) (h : w.ownsRow B 5 1 sv n (bc zs)) (hB : B ≤ w.heap.size) (hn : n ≤ 4194304) (hs : s.size ≤ 2097152) :
    Calls Try.prog 31 #[sv, .string s] w fun e w' => ∃ v', e = .returned v' ∧ Grew B w w' sv v' (n + (hd 3 s.size ++ sb s).length) (zs ++ (hd 3 s.size ++ sb s)) := by
  have HC := head_any B 3 s.size n sv zs w h hB hn (by omega) (by omega)
  obtain ⟨a, cp, rfl, -, -, -, -⟩ := owns_lies h
  have hw : (s.size : Int) % 18446744073709551616 = (s.size : Int) := by omega
  have HH := hid (And.intro hn (And.intro hs hB))
  clear h hn hs hB
  go_enter Try.func31, Try.ntmps31
  go_wp2_with fail
  refine HC.mono ?_
  rintro e w1 ⟨v1, rfl, hG⟩
  obtain ⟨v2, w2, hap, hG2⟩ := str_eq B _ v1 _ s w1 hG.own (Nat.le_trans HH.out.2.2 hG.grown.size) (by have := HH.out; have := hd_length_le 3 s.size; omega)
  have HG := hid (hG.trans hG2)
  have HAP := hid hap
  clear hG hG2 hap HC
  go_wp2_with (at_builtin; refine wpList_app rfl (.tmp 9) (.tmp 10) 22 9 rfl _ _ rfl rfl HAP.out ?_)
  go_ret
  refine ⟨_, rfl, ?_⟩
  have := HG.out
  rw [List.append_assoc, Nat.add_assoc] at this
  rw [List.length_append, sb_length]
  exact this

set_option maxRecDepth 100000 in
set_option maxHeartbeats 1000000 in
/-- appendMessageID. -/
theorem mid_any (B n q : Nat) (sv : Value) (zs : List Int) (s : ByteArray) (w : World) (h : w.ownsRow B 5 1 sv n (bc zs)) (hB : B ≤ w.heap.size) (hn : n ≤ 2000000) (hs : s.size ≤ 2000000) (hq : q < 18446744073709551616) :
    Calls Try.prog 32 #[sv, .agg #[.string s, .int .u64 (q : Int)]] w fun e w' => ∃ v', e = .returned v' ∧ Grew B w w' sv v' (n + (hd 4 2 ++ (hd 3 s.size ++ sb s) ++ hd 0 q).length) (zs ++ (hd 4 2 ++ (hd 3 s.size ++ sb s) ++ hd 0 q)) := by
  have hlt : ∀ k, sv.ownBlock = some k → k < w.heap.size := fun k hk => (h.lt k hk).2
  obtain ⟨a, cp, rfl, -, -, -, -⟩ := owns_lies h
  have HH := hid (And.intro hn (And.intro hs (And.intro hB hq)))
  have HO := hid h
  have HL := hid hlt
  clear h hn hs hB hq hlt
  go_enter Try.func32, Try.ntmps32
  go_wp2
  have c0 : (w.alloc (.cells #[.string s, .int .u64 (q : Int)] 51)).cell? ⟨w.heap.size, 0, none⟩ = some (.string s) := by rw [World.cell?_alloc_new]; rfl
  have c1 : (w.alloc (.cells #[.string s, .int .u64 (q : Int)] 51)).cell? ⟨w.heap.size, 1, none⟩ = some (.int .u64 (q : Int)) := by rw [World.cell?_alloc_new]; rfl
  have HO1 := hid (HO.out.alloc (.cells #[.string s, .int .u64 (q : Int)] 51))
  have hsz : (w.alloc (.cells #[.string s, .int .u64 (q : Int)] 51)).heap.size = w.heap.size + 1 := by simp
  have HF' : Hid (∀ (w' : World) (v' : Value) (n' : Nat) (xs : List Value), Fine B (w.alloc (.cells #[.string s, .int .u64 (q : Int)] 51)) w' (.slice a n cp) v' n' xs → Fine B w w' (.slice a n cp) v' n' xs) := fun w' v' n' xs h => h.of_alloc _
  have HSZ := hid hsz
  clear hsz HO
  generalize w.alloc (.cells #[.string s, .int .u64 (q : Int)] 51) = W at *
  have hne : (Value.slice a n cp).ownBlock ≠ some w.heap.size := fun e => by have := HL.out _ e; omega
  have HC := arr_any B 2 n (.slice a n cp) zs W.drew HO1.out (by have := HH.out; have := HSZ.out; show B ≤ W.heap.size; omega) (by have := HH.out; omega) (by omega)
  have HC2 : ∀ (w1 : World) (v1 : Value), Grew B W.drew w1 (.slice a n cp) v1 (n + (hd 4 2).length) (zs ++ hd 4 2) → Calls Try.prog 31 #[v1, .string s] w1 fun e w' => ∃ v', e = .returned v' ∧ Grew B W.drew w' (.slice a n cp) v' (n + (hd 4 2).length + (hd 3 s.size ++ sb s).length) (zs ++ hd 4 2 ++ (hd 3 s.size ++ sb s)) := by
    intro w1 v1 g1
    refine (text_any B _ v1 _ s w1 g1.own (by have h1 := g1.grown.size; have h2 : W.drew.heap.size = W.heap.size := rfl; have := HH.out; have := HSZ.out; omega) (by have := HH.out; have := hd_length_le 4 2; omega) (by have := HH.out; omega)).mono ?_
    rintro e w2 ⟨v2, rfl, g2⟩
    exact ⟨v2, rfl, g1.trans g2⟩
  have HNE := hid hne
  clear hne
  go_region_with (first
    | (go_at_call 27; refine HC.mono ?_; rintro e w1 ⟨v1, rfl, g1⟩; have c0' := Fine.cell (w := W.drew) g1 (a := ⟨w.heap.size, 0, none⟩) c0 HNE.out; have HC3 := HC2 w1 v1 g1; clear g1)
    | (go_at_call 31; refine HC3.mono ?_; rintro e w2 ⟨v2, rfl, g2⟩; have G2 := hid g2; clear g2))
  all_goals
    have c1' := Fine.cell (w := W.drew) G2.out (a := ⟨w.heap.size, 1, none⟩) c1 HNE.out
    have HU := uint_any B q _ v2 _ w2 G2.out.own (by have h1 := G2.out.grown.size; have h2 : W.drew.heap.size = W.heap.size := rfl; have := HH.out; have := HSZ.out; omega) (by have := HH.out; have := hd_length_le 4 2; have := hd_length_le 3 s.size; have := sb_length s; rw [List.length_append]; omega) HH.out.2.2.2
    clear HC HC2 HC3 c0 c0' c1
    go_wp2_with fail
    refine HU.mono ?_
    rintro e w3 ⟨v3, rfl, g3⟩
    have G3 := hid (HF'.out _ _ _ _ (G2.out.trans g3).of_drew)
    clear g3 HU
    go_wp2
    go_ret
    refine ⟨_, rfl, ?_⟩
    exact G3.out.cast (by simp only [List.length_append]; omega) (by simp only [List.append_assoc])

set_option maxRecDepth 100000 in
set_option maxHeartbeats 1000000 in
/-- AppendAnnounced. -/
theorem ann_any (B n q hp : Nat) (sv : Value) (zs : List Int) (s : ByteArray) (w : World) (h : w.ownsRow B 5 1 sv n (bc zs)) (hB : B ≤ w.heap.size) (hn : n ≤ 1500000) (hs : s.size ≤ 2000000) (hq : q < 18446744073709551616) (hh : hp < 4294967296) :
    Calls Try.prog 29 #[sv, .agg #[.string s, .int .u64 (q : Int), .int .u32 (hp : Int)]] w fun e w' => ∃ v', e = .returned v' ∧ Grew B w w' sv v' (n + (hd 4 2 ++ (hd 4 2 ++ (hd 3 s.size ++ sb s) ++ hd 0 q) ++ hd 0 hp).length) (zs ++ (hd 4 2 ++ (hd 4 2 ++ (hd 3 s.size ++ sb s) ++ hd 0 q) ++ hd 0 hp)) := by
  have hlt : ∀ k, sv.ownBlock = some k → k < w.heap.size := fun k hk => (h.lt k hk).2
  obtain ⟨a, cp, rfl, -, -, -, -⟩ := owns_lies h
  have HH := hid (And.intro hn (And.intro hs (And.intro hB hq)))
  have HP := hid hh
  have HO := hid h
  have HL := hid hlt
  have hwu : (hp : Int) % 18446744073709551616 = (hp : Int) := by omega
  clear h hn hs hB hq hlt hh
  go_enter Try.func29, Try.ntmps29
  go_wp2
  have c0 : (w.alloc (.cells #[.string s, .int .u64 (q : Int), .int .u32 (hp : Int)] 53)).cell? ⟨w.heap.size, 0, none⟩ = some (.string s) := by rw [World.cell?_alloc_new]; rfl
  have c1 : (w.alloc (.cells #[.string s, .int .u64 (q : Int), .int .u32 (hp : Int)] 53)).cell? ⟨w.heap.size, 1, none⟩ = some (.int .u64 (q : Int)) := by rw [World.cell?_alloc_new]; rfl
  have c2 : (w.alloc (.cells #[.string s, .int .u64 (q : Int), .int .u32 (hp : Int)] 53)).cell? ⟨w.heap.size, 2, none⟩ = some (.int .u32 (hp : Int)) := by rw [World.cell?_alloc_new]; rfl
  have HO1 := hid (HO.out.alloc (.cells #[.string s, .int .u64 (q : Int), .int .u32 (hp : Int)] 53))
  have hsz : (w.alloc (.cells #[.string s, .int .u64 (q : Int), .int .u32 (hp : Int)] 53)).heap.size = w.heap.size + 1 := by simp
  have HF' : Hid (∀ (w' : World) (v' : Value) (n' : Nat) (xs : List Value), Fine B (w.alloc (.cells #[.string s, .int .u64 (q : Int), .int .u32 (hp : Int)] 53)) w' (.slice a n cp) v' n' xs → Fine B w w' (.slice a n cp) v' n' xs) := fun w' v' n' xs h => h.of_alloc _
  have HSZ := hid hsz
  clear hsz HO
  generalize w.alloc (.cells #[.string s, .int .u64 (q : Int), .int .u32 (hp : Int)] 53) = W at *
  have hne : (Value.slice a n cp).ownBlock ≠ some w.heap.size := fun e => by have := HL.out _ e; omega
  have HC := arr_any B 2 n (.slice a n cp) zs W.drew HO1.out (by have := HH.out; have := HSZ.out; show B ≤ W.heap.size; omega) (by have := HH.out; omega) (by omega)
  have HC2 : ∀ (w1 : World) (v1 : Value), Grew B W.drew w1 (.slice a n cp) v1 (n + (hd 4 2).length) (zs ++ hd 4 2) → Calls Try.prog 32 #[v1, .agg #[.string s, .int .u64 (q : Int)]] w1 fun e w' => ∃ v', e = .returned v' ∧ Grew B W.drew w' (.slice a n cp) v' (n + (hd 4 2).length + (hd 4 2 ++ (hd 3 s.size ++ sb s) ++ hd 0 q).length) (zs ++ hd 4 2 ++ (hd 4 2 ++ (hd 3 s.size ++ sb s) ++ hd 0 q)) := by
    intro w1 v1 g1
    refine (mid_any B _ q v1 _ s w1 g1.own (by have h1 := g1.grown.size; have h2 : W.drew.heap.size = W.heap.size := rfl; have := HH.out; have := HSZ.out; omega) (by have := HH.out; have := hd_length_le 4 2; omega) (by have := HH.out; omega) HH.out.2.2.2).mono ?_
    rintro e w2 ⟨v2, rfl, g2⟩
    exact ⟨v2, rfl, g1.trans g2⟩
  have HNE := hid hne
  clear hne
  go_region_with (first
    | (go_at_call 27; refine HC.mono ?_; rintro e w1 ⟨v1, rfl, g1⟩; have c0' := Fine.cell (w := W.drew) g1 (a := ⟨w.heap.size, 0, none⟩) c0 HNE.out; have c1' := Fine.cell (w := W.drew) g1 (a := ⟨w.heap.size, 1, none⟩) c1 HNE.out; have HC3 := HC2 w1 v1 g1; clear g1)
    | (go_at_call 32; refine HC3.mono ?_; rintro e w2 ⟨v2, rfl, g2⟩; have G2 := hid g2; clear g2))
  all_goals
    have c2' := Fine.cell (w := W.drew) G2.out (a := ⟨w.heap.size, 2, none⟩) c2 HNE.out
    have HU := uint_any B hp _ v2 _ w2 G2.out.own (by have h1 := G2.out.grown.size; have h2 : W.drew.heap.size = W.heap.size := rfl; have := HH.out; have := HSZ.out; omega) (by have := HH.out; have := hd_length_le 4 2; have := hd_length_le 3 s.size; have := hd_length_le 0 q; have := sb_length s; simp only [List.length_append]; omega) (by have := HP.out; omega)
    clear HC HC2 HC3 c0 c0' c1 c1' c2
    go_wp2_with fail
    refine HU.mono ?_
    rintro e w3 ⟨v3, rfl, g3⟩
    have G3 := hid (HF'.out _ _ _ _ (G2.out.trans g3).of_drew)
    clear g3 HU
    go_wp2
    go_ret
    refine ⟨_, rfl, ?_⟩
    exact G3.out.cast (by simp only [List.length_append]; omega) (by simp only [List.append_assoc])
end Go.Proofs.Qxb6608763a
