/-
  Seat b6608763a: makeGraft, Graft.appendFields, ZZAppendGraft. By an AI agent.
-/
import Derived.Test.Qxb6608763aText
import Derived.Handy
namespace Go.Proofs.Qxb6608763a
open Go.RowKit

/-- What an Announced is written as. -/
def annL (s : ByteArray) (q hp : Nat) : List Int := hd 4 2 ++ (hd 4 2 ++ (hd 3 s.size ++ sb s) ++ hd 0 q) ++ hd 0 hp
/-- What a Graft is written as. -/
def grL (has : Bool) (s : ByteArray) (q hp : Nat) : List Int := hd 4 1 ++ if has then annL s q hp else [246]

theorem mk_no (s : ByteArray) (q hp : Int) (w : World) :
    Calls Try.prog 21 #[.bool false, .string s, .int .u64 q, .int .u32 hp] w fun e w' => e = .returned (.agg #[.pointer none]) ∧ Below w.heap.size w w' := by
  go_enter Try.func21, Try.ntmps21
  go_wp2
  go_returns
  exact ⟨rfl, (Below.refl _ _).alloc (Nat.le_refl _) _⟩

/-- The block of an Announced. -/
structure Ann (w : World) (b : Nat) (s : ByteArray) (q hp : Int) : Prop where
  c0 : w.cell? ⟨b, 0, none⟩ = some (.string s)
  c1 : w.cell? ⟨b, 1, none⟩ = some (.int .u64 q)
  c2 : w.cell? ⟨b, 2, none⟩ = some (.int .u32 hp)

theorem Ann.lt {w : World} {b : Nat} {s : ByteArray} {q hp : Int} (h : Ann w b s q hp) : b < w.heap.size := World.block_lt_of_cell? _ _ h.c0
theorem Ann.grown {w w' : World} {b : Nat} {s : ByteArray} {q hp : Int} {r : Option Nat} (h : Ann w b s q hp) (hg : w.grownBy w' r) (hr : r ≠ some b) : Ann w' b s q hp :=
  ⟨hg.cell h.c0 (fun e => hr e.symm), hg.cell h.c1 (fun e => hr e.symm), hg.cell h.c2 (fun e => hr e.symm)⟩
theorem Ann.below {w w' : World} {b : Nat} {s : ByteArray} {q hp : Int} (h : Ann w b s q hp) (hg : Below w.heap.size w w') : Ann w' b s q hp :=
  ⟨(hg.cell h.lt).trans h.c0, (hg.cell h.lt).trans h.c1, (hg.cell h.lt).trans h.c2⟩

theorem mk_yes (s : ByteArray) (q hp : Int) (w : World) :
    Calls Try.prog 21 #[.bool true, .string s, .int .u64 q, .int .u32 hp] w fun e w' => ∃ b, e = .returned (.agg #[.pointer (some ⟨b, 0, none⟩)]) ∧ Hid (Ann w' b s q hp ∧ w.heap.size ≤ b ∧ Below w.heap.size w w') := by
  go_enter Try.func21, Try.ntmps21
  go_wp2
  go_returns
  have hb : ((w.alloc (.cells #[.pointer (some ⟨w.heap.size + 1, 0, none⟩)] 43)).alloc (.cells #[.string s, .int .u64 q, .int .u32 hp] 53)).heap[w.heap.size + 1]? = some (.cells #[.string s, .int .u64 q, .int .u32 hp] 53) := by
    have := alloc_at (w.alloc (.cells #[.pointer (some ⟨w.heap.size + 1, 0, none⟩)] 43)) (.cells #[.string s, .int .u64 q, .int .u32 hp] 53)
    simpa using this
  refine ⟨w.heap.size + 1, rfl, ⟨?_, ?_, ?_⟩, by omega, ?_⟩
  · rw [cell_of_block hb]; rfl
  · rw [cell_of_block hb]; rfl
  · rw [cell_of_block hb]; rfl
  · exact ((Below.refl _ _).alloc (Nat.le_refl _) _).alloc (by simp) _

theorem one_more (n : Nat) (L : List Int) (x : Int) : n + L.length + [x].length = n + (L ++ [x]).length := by simp; omega

set_option maxRecDepth 100000 in
set_option maxHeartbeats 1000000 in
theorem fields_no (B n : Nat) (sv : Value) (zs : List Int) (w : World) (h : w.ownsRow B 5 1 sv n (bc zs)) (hB : B ≤ w.heap.size) (hn : n ≤ 1500000) :
    Calls Try.prog 25 #[.agg #[.pointer none], sv] w fun e w' => ∃ v', e = .returned v' ∧ Grew B w w' sv v' (n + (hd 4 1 ++ [246]).length) (zs ++ (hd 4 1 ++ [246])) := by
  have hlt : ∀ k, sv.ownBlock = some k → k < w.heap.size := fun k hk => (h.lt k hk).2
  have HC := arr_any B 1 n sv zs (w.alloc (.cells #[.pointer none] 43)) (h.alloc _) (by simp; omega) (by omega) (by omega)
  have c0 : (w.alloc (.cells #[.pointer none] 43)).cell? ⟨w.heap.size, 0, none⟩ = some (.pointer none) := by rw [World.cell?_alloc_new]; rfl
  have HL := hid (And.intro hn (And.intro hB hlt))
  obtain ⟨a, cp, rfl, -, -, -, -⟩ := owns_lies h
  clear h hn hB hlt
  go_enter Try.func25, Try.ntmps25
  go_wp2_with fail
  refine HC.mono ?_
  rintro e w1 ⟨v1, rfl, g1⟩
  have c1 : w1.cell? ⟨w.heap.size, 0, none⟩ = some (.pointer none) := g1.cell c0 (fun e => by have := HL.out.2.2 _ e; simp at this)
  obtain ⟨v2, w2, hap, g2⟩ := app_eq B _ v1 _ [246] w1 g1.own (by have h1 := g1.grown.size; have := HL.out; simp at h1; omega) (by have := hd_length_le 4 1; have := HL.out; simp; omega)
  have HG := hid (g1.trans g2).of_alloc
  have HAP := hid hap
  clear HC c0 g1 g2 hap
  go_wp2_with (at_builtin; refine wpList_app rfl (.tmp 10) (.tmp 11) 22 22 rfl _ _ rfl rfl HAP.out ?_)
  go_ret
  exact ⟨_, rfl, HG.out.cast (one_more _ _ _) (by simp only [List.append_assoc])⟩

set_option maxRecDepth 100000 in
set_option maxHeartbeats 1000000 in
theorem fields_yes (B n b q hp : Nat) (sv : Value) (zs : List Int) (s : ByteArray) (w : World) (h : w.ownsRow B 5 1 sv n (bc zs)) (hB : B ≤ w.heap.size) (hn : n ≤ 1200000) (hs : s.size ≤ 2000000) (hq : q < 18446744073709551616) (hh : hp < 4294967296)
    (hA : Ann w b s (q : Int) (hp : Int)) (hne : sv.ownBlock ≠ some b) :
    Calls Try.prog 25 #[.agg #[.pointer (some ⟨b, 0, none⟩)], sv] w fun e w' => ∃ v', e = .returned v' ∧ Grew B w w' sv v' (n + (hd 4 1 ++ annL s q hp).length) (zs ++ (hd 4 1 ++ annL s q hp)) := by
  have hlt : ∀ k, sv.ownBlock = some k → k < w.heap.size := fun k hk => (h.lt k hk).2
  have HC := arr_any B 1 n sv zs (w.alloc (.cells #[.pointer (some ⟨b, 0, none⟩)] 43)) (h.alloc _) (by simp; omega) (by omega) (by omega)
  have c0 : (w.alloc (.cells #[.pointer (some ⟨b, 0, none⟩)] 43)).cell? ⟨w.heap.size, 0, none⟩ = some (.pointer (some ⟨b, 0, none⟩)) := by rw [World.cell?_alloc_new]; rfl
  have HA := hid (hA.grown (World.grownBy_alloc w (.cells #[.pointer (some ⟨b, 0, none⟩)] 43) sv.ownBlock) hne)
  have HNE := hid hne
  have HL := hid (And.intro hn (And.intro hB (And.intro hlt (And.intro hs (And.intro hq hh)))))
  obtain ⟨a, cp, rfl, -, -, -, -⟩ := owns_lies h
  clear h hn hB hlt hA hne hs hq hh
  go_enter Try.func25, Try.ntmps25
  go_wp2_with fail
  refine HC.mono ?_
  rintro e w1 ⟨v1, rfl, g1⟩
  have c1 : w1.cell? ⟨w.heap.size, 0, none⟩ = some (.pointer (some ⟨b, 0, none⟩)) := g1.cell c0 (fun e => by have := HL.out.2.2.1 _ e; simp at this)
  obtain ⟨a0, a1, a2⟩ := HA.out.grown g1.grown HNE.out
  have HC2 := ann_any B _ q hp v1 _ s w1 g1.own (by have h1 := g1.grown.size; have := HL.out; simp at h1; omega) (by have := hd_length_le 4 1; have := HL.out; omega) (by have := HL.out; omega) HL.out.2.2.2.2.1 HL.out.2.2.2.2.2
  have G1 := hid g1
  clear HC c0 g1
  go_wp2_with fail
  refine HC2.mono ?_
  rintro e w2 ⟨v2, rfl, g2⟩
  have G2 := hid (G1.out.trans g2).of_alloc
  clear HC2 g2
  go_wp2
  go_ret
  exact ⟨_, rfl, G2.out.cast (by unfold annL; simp only [List.length_append]; omega) (by unfold annL; simp only [List.append_assoc])⟩

set_option maxHeartbeats 400000 in
/-- ZZAppendGraft hands on. -/
theorem zzgraft (P : Ending → World → Prop) (v sv : Value) (w : World) (p : Option Addr) (hv : v = .agg #[.pointer p]) (a : Option Addr) (n c : Nat) (hs : sv = .slice a n c)
    (h : Calls Try.prog 25 #[v, sv] (w.alloc (.cells #[.pointer p] 43)) P) (hP : ∀ e w', P e w' → ∃ v', e = .returned v') :
    Calls Try.prog 20 #[v, sv] w P := by
  subst hv
  subst hs
  go_enter Try.func20, Try.ntmps20
  go_wp2_with fail
  refine h.mono ?_
  intro e w' he
  obtain ⟨v', rfl⟩ := hP _ _ he
  have HE := hid he
  clear he h
  go_wp2
  exact HE.out

/-- makeGraft's result, as the appends see it. -/
def Gr (w : World) (B : Nat) (has : Bool) (v : Value) (s : ByteArray) (q hp : Int) : Prop :=
  (has = false ∧ v = .agg #[.pointer none]) ∨ (has = true ∧ ∃ b, v = .agg #[.pointer (some ⟨b, 0, none⟩)] ∧ Ann w b s q hp ∧ B ≤ b)

theorem mk_any (has : Bool) (s : ByteArray) (q hp : Int) (w : World) :
    Calls Try.prog 21 #[.bool has, .string s, .int .u64 q, .int .u32 hp] w fun e w' => ∃ v, e = .returned v ∧ Gr w' w.heap.size has v s q hp ∧ Below w.heap.size w w' := by
  cases has with
  | false =>
    refine (mk_no s q hp w).mono ?_
    rintro e w' ⟨rfl, hb⟩
    exact ⟨_, rfl, .inl ⟨rfl, rfl⟩, hb⟩
  | true =>
    refine (mk_yes s q hp w).mono ?_
    rintro e w' ⟨b, rfl, h1, h2, h3⟩
    exact ⟨_, rfl, .inr ⟨rfl, b, rfl, h1, h2⟩, h3⟩

theorem graft_any (B n q hp : Nat) (has : Bool) (v sv : Value) (zs : List Int) (s : ByteArray) (w : World) (h : w.ownsRow B 5 1 sv n (bc zs)) (hB : B ≤ w.heap.size) (hn : n ≤ 1200000) (hs : s.size ≤ 2000000) (hq : q < 18446744073709551616) (hh : hp < 4294967296)
    (hG : Gr w 0 has v s (q : Int) (hp : Int)) (hne : ∀ b, v = .agg #[.pointer (some ⟨b, 0, none⟩)] → sv.ownBlock ≠ some b) :
    Calls Try.prog 20 #[v, sv] w fun e w' => ∃ v', e = .returned v' ∧ Grew B w w' sv v' (n + (grL has s q hp).length) (zs ++ grL has s q hp) := by
  obtain ⟨a, c, hsv, -, -, -, -⟩ := owns_lies h
  rcases hG with ⟨rfl, hv⟩ | ⟨rfl, b, hv, hA, _⟩
  · refine zzgraft _ v sv w none hv a n c hsv ?_ (fun e w' ⟨v', he, _⟩ => ⟨v', he⟩)
    subst hv
    refine (fields_no B n sv zs _ (h.alloc _) (by simp; omega) (by omega)).mono ?_
    rintro e w' ⟨v', rfl, g⟩
    exact ⟨v', rfl, g.of_alloc⟩
  · refine zzgraft _ v sv w (some ⟨b, 0, none⟩) hv a n c hsv ?_ (fun e w' ⟨v', he, _⟩ => ⟨v', he⟩)
    have hnb := hne b hv
    subst hv
    refine (fields_yes B n b q hp sv zs s _ (h.alloc _) (by simp; omega) hn hs hq hh (hA.grown (World.grownBy_alloc w _ none) (by simp)) hnb).mono ?_
    rintro e w' ⟨v', rfl, g⟩
    exact ⟨v', rfl, g.of_alloc⟩
end Go.Proofs.Qxb6608763a
