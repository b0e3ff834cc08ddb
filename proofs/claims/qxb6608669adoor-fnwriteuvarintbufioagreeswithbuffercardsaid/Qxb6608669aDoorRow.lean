/-
  Seat b6608669aD: a row of bytes written in place; the small word functions; the puts. By an AI agent.
-/
import Derived.Test.Qxb6608669aDoorBase
import Derived.Test.Qxb6608669aDoorBits
import Derived.Test.Qxb6608669aDoorUv
import Derived.Test.Qxb6608669aDoorLaid
import Derived.RegionTactic
import Derived.Deep.RegionWith
namespace Go.Proofs.Qxb6608669aDoor
open Go.RowKit

/-- Block g is a row of bytes, holding the cells cur. -/
def Row (w : World) (g : Nat) (cur : List Value) : Prop := w.heap[g]? = some (.cells cur.toArray 5 (0, 0))

theorem Row.cell {w : World} {g : Nat} {cur : List Value} (h : Row w g cur) (i : Nat) : w.cell? ⟨g, i, none⟩ = cur[i]? := by
  unfold Row at h
  simp [World.cell?, h]
theorem Row.frozen {w : World} {g : Nat} {cur : List Value} (h : Row w g cur) (i : Nat) : w.frozen? ⟨g, i, none⟩ = false := by
  unfold Row at h
  simp [World.frozen?, h]
theorem Row.lt {w : World} {g : Nat} {cur : List Value} (h : Row w g cur) : g < w.heap.size := Lib.lt_of_heap h
theorem Row.get {w : World} {g : Nat} {cur : List Value} (h : Row w g cur) (i : Nat) (hi : i < cur.length) : ∃ v, w.cell? ⟨g, i, none⟩ = some v := ⟨cur[i], by rw [h.cell, List.getElem?_eq_getElem hi]⟩
theorem Row.alloc {w : World} {g : Nat} {cur : List Value} (h : Row w g cur) (o : Obj) : Row (w.alloc o) g cur := by
  have hl := h.lt
  unfold Row at *
  rw [Below.heap_alloc _ _ _ hl]; exact h

theorem splice_get {α : Type} (cur cs : List α) (o i : Nat) (h : o + cs.length ≤ cur.length) : (splice cur o cs)[i]? = if i < o then cur[i]? else if i < o + cs.length then cs[i - o]? else cur[i]? := by
  unfold splice
  have ho : (cur.take o).length = o := by simp; omega
  by_cases h1 : i < o
  · rw [if_pos h1, List.getElem?_append_left (by omega), List.getElem?_take, if_pos h1]
  · rw [if_neg h1, List.getElem?_append_right (by omega), ho]
    by_cases h2 : i < o + cs.length
    · rw [if_pos h2, List.getElem?_append_left (by omega)]
    · rw [if_neg h2, List.getElem?_append_right (by omega), List.getElem?_drop]
      congr 1; omega

/-- Two pieces laid over one another, the second from inside the first to its end or beyond. -/
theorem splice_splice {α : Type} (cur xs ys : List α) (o k : Nat) (hk : k ≤ xs.length) (hy : xs.length ≤ k + ys.length) (h : o + k + ys.length ≤ cur.length) :
    splice (splice cur o xs) (o + k) ys = splice cur o (xs.take k ++ ys) := by
  apply List.ext_getElem?
  intro i
  have hx : o + xs.length ≤ cur.length := by omega
  have ht : (xs.take k ++ ys).length = k + ys.length := by simp; omega
  rw [splice_get _ _ _ _ (by rw [length_splice _ _ _ hx]; omega), splice_get _ _ _ _ hx, splice_get _ _ _ _ (by rw [ht]; omega), ht]
  by_cases h1 : i < o
  · simp [h1, show i < o + k by omega]
  · by_cases h2 : i < o + k
    · simp only [h1, h2, if_true, if_false, show i < o + xs.length by omega, show i < o + (k + ys.length) by omega]
      rw [List.getElem?_append_left (by simp; omega), List.getElem?_take, if_pos (by omega)]
    · by_cases h3 : i < o + k + ys.length
      · simp only [h1, h2, h3, if_true, if_false, show i < o + (k + ys.length) by omega]
        rw [List.getElem?_append_right (by simp; omega)]
        congr 1; simp; omega
      · simp only [h1, h2, h3, if_false, show ¬ i < o + (k + ys.length) by omega, show ¬ i < o + xs.length by omega]

theorem set_splice {α : Type} (cur : List α) (o : Nat) (v : α) (h : o < cur.length) : cur.set o v = splice cur o [v] := by
  apply List.ext_getElem?
  intro i
  rw [splice_get _ _ _ _ (by simp; omega), List.getElem?_set]
  by_cases h1 : i < o
  · simp [h1]; omega
  · by_cases h2 : i = o
    · subst h2; simp [h]
    · simp [h1, show ¬ o = i by omega, show ¬ i < o + 1 by omega]

theorem row_setCells (g : Nat) : ∀ (cs cur : List Value) (o : Nat) (w : World), Row w g cur → o + cs.length ≤ cur.length → Row (w.setCells g o cs) g (splice cur o cs) ∧ w.grownBy (w.setCells g o cs) (some g)
  | [], cur, o, w, h, _ => ⟨by simpa [splice, World.setCells] using h, World.grownBy.refl _ _⟩
  | v :: r, cur, o, w, h, hl => by
    simp only [List.length_cons] at hl
    have e1 : w.setCell ⟨g, o, none⟩ v = w.setRow g (cur.set o v).toArray := by
      rw [setCell_eq_setRow w g o cur.toArray 5 (0, 0) v h]
      congr 1; simp
    have h1 : Row (w.setCell ⟨g, o, none⟩ v) g (cur.set o v) := by rw [e1]; exact setRow_heap w g _ _ 5 (0, 0) h
    obtain ⟨r1, r2⟩ := row_setCells g r (cur.set o v) (o + 1) (w.setCell ⟨g, o, none⟩ v) h1 (by simp; omega)
    refine ⟨?_, ?_⟩
    · show Row ((w.setCell ⟨g, o, none⟩ v).setCells g (o + 1) r) g _
      have e2 : splice (cur.set o v) (o + 1) r = splice cur o (v :: r) := by
        rw [set_splice cur o v (by omega), splice_splice cur [v] r o 1 (by simp) (by simp) (by omega)]
        rfl
      rw [← e2]; exact r1
    · exact Lib.grownBy_trans (Lib.grownBy_setCell w g o v) r2

/-- A put in place: the row is now cur', all else is as it was, new blocks apart. -/
def Put (w w' : World) (g : Nat) (cur' : List Value) : Prop := Row w' g cur' ∧ w.grownBy w' (some g)

theorem Put.trans {w w1 w2 : World} {g : Nat} {c1 c2 : List Value} (h : Put w w1 g c1) (k : Put w1 w2 g c2) : Put w w2 g c2 := ⟨k.1, Lib.grownBy_trans h.2 k.2⟩
theorem Put.drewN {w w1 : World} {g : Nat} {c1 : List Value} (h : Put w w1 g c1) (n : Nat) : Put w (w1.drewN n) g c1 := ⟨h.1, ⟨h.2.os, h.2.tape, h.2.output, h.2.size, h.2.block⟩⟩
theorem Put.drew {w w1 : World} {g : Nat} {c1 : List Value} (h : Put w w1 g c1) : Put w w1.drew g c1 := ⟨h.1, ⟨h.2.os, h.2.tape, h.2.output, h.2.size, h.2.block⟩⟩
theorem Put.below {w w1 : World} {g B : Nat} {c1 : List Value} (h : Put w w1 g c1) (hB : B ≤ g) (hw : B ≤ w.heap.size) : Below B w w1 :=
  ⟨h.2.os, h.2.tape, h.2.output, h.2.size, fun k hk => h.2.block k (by omega) (fun e => by have := Option.some.inj e; omega)⟩

theorem put_cells {w : World} {g : Nat} {cur cs : List Value} {o : Nat} (ob : Obj) (h : Row w g cur) (hl : o + cs.length ≤ cur.length) : Put w ((w.alloc ob).setCells g o cs) g (splice cur o cs) := by
  obtain ⟨r1, r2⟩ := row_setCells g cs cur o (w.alloc ob) (h.alloc ob) hl
  exact ⟨r1, Lib.grownBy_trans (World.grownBy_alloc w ob (some g)) r2⟩

/-- The varint's bytes as Int, and as cells. -/
def ui (x : Nat) : List Int := (uv x).map fun (n : Nat) => (n : Int)
def uc (x : Nat) : List Value := bc (ui x)
theorem ui_length (x : Nat) : (ui x).length = ulen x := by simp [ui, uv_length]
theorem uc_length (x : Nat) : (uc x).length = ulen x := by simp [uc, bc_length, ui_length]

theorem le2 (v : Nat) : Lib.byteCells (Lib.leBytes 2 v) = bc [((v % 256 : Nat) : Int), ((v / 256 % 256 : Nat) : Int)] := by
  simp only [Lib.byteCells, Lib.leBytes, bc, List.map_cons, List.map_nil, Lib.toUInt8_mod]
theorem le4 (v : Nat) : Lib.byteCells (Lib.leBytes 4 v) = bc [((v % 256 : Nat) : Int), ((v / 256 % 256 : Nat) : Int), ((v / 256 / 256 % 256 : Nat) : Int), ((v / 256 / 256 / 256 % 256 : Nat) : Int)] := by
  simp only [Lib.byteCells, Lib.leBytes, bc, List.map_cons, List.map_nil, Lib.toUInt8_mod]
theorem le8 (v : Nat) : Lib.byteCells (Lib.leBytes 8 v) = bc [((v % 256 : Nat) : Int), ((v / 256 % 256 : Nat) : Int), ((v / 256 / 256 % 256 : Nat) : Int), ((v / 256 / 256 / 256 % 256 : Nat) : Int),
    ((v / 256 / 256 / 256 / 256 % 256 : Nat) : Int), ((v / 256 / 256 / 256 / 256 / 256 % 256 : Nat) : Int), ((v / 256 / 256 / 256 / 256 / 256 / 256 % 256 : Nat) : Int), ((v / 256 / 256 / 256 / 256 / 256 / 256 / 256 % 256 : Nat) : Int)] := by
  simp only [Lib.byteCells, Lib.leBytes, bc, List.map_cons, List.map_nil, Lib.toUInt8_mod]

/-! ### The word functions -/
theorem ret_int {k : IntKind} {a b : Int} (h : a = b) : Ending.returned (.int k a) = .returned (.int k b) := by rw [h]

theorem pair_any (x : Nat) (w : World) (h1 : x < 16384) :
    Calls Tryd.prog 43 #[.int .u64 (x : Int)] w fun e w' => e = .returned (.int .u16 ((x % 128 + 128 + 256 * (x / 128) : Nat) : Int)) ∧ w' = w := by
  go_enter Tryd.func43, Tryd.ntmps43
  go_wp2
  go_ret
  exact ⟨ret_int (pair_bits x h1), rfl⟩

theorem quad_any (x : Nat) (w : World) (h1 : x < 268435456) :
    Calls Tryd.prog 52 #[.int .u32 (x : Int)] w fun e w' => e = .returned (.int .u32 ((spread4 x : Nat) : Int)) ∧ w' = w := by
  go_enter Tryd.func52, Tryd.ntmps52
  go_wp2
  go_ret
  exact ⟨ret_int (quad_bits x h1), rfl⟩

theorem groups_any (x : Nat) (w : World) (h1 : x < 18446744073709551616) :
    Calls Tryd.prog 55 #[.int .u64 (x : Int)] w fun e w' => e = .returned (.int .u64 ((spread8 x : Nat) : Int)) ∧ w' = w := by
  go_enter Tryd.func55, Tryd.ntmps55
  go_wp2
  go_ret
  exact ⟨ret_int (groups_bits x h1), rfl⟩


/-! ### The puts -/
theorem Put.of_drew {w w1 : World} {g : Nat} {c1 : List Value} (h : Put w.drew w1 g c1) : Put w w1 g c1 := ⟨h.1, ⟨h.2.os, h.2.tape, h.2.output, h.2.size, h.2.block⟩⟩
theorem Put.of_drewN {w w1 : World} {g n : Nat} {c1 : List Value} (h : Put (w.drewN n) w1 g c1) : Put w w1 g c1 := ⟨h.1, ⟨h.2.os, h.2.tape, h.2.output, h.2.size, h.2.block⟩⟩

theorem put16r (g o n c : Nat) (v : Int) (a b : Nat) (cur : List Value) (w : World) (hv : v = ((a + 256 * b : Nat) : Int)) (ha : a < 256) (hb : b < 256) (hn : 2 ≤ n) (hr : Row w g cur) (ho : o + 2 ≤ cur.length) :
    Calls Tryd.prog 53 #[.agg #[], .slice (some ⟨g, o, none⟩) n c, .int .u16 v] w fun e w' => e = .returned (.tuple #[]) ∧ Put w w' g (splice cur o (bc [(a : Int), (b : Int)])) := by
  subst hv
  obtain ⟨x0, c0⟩ := hr.get o (by omega)
  obtain ⟨x1, c1⟩ := hr.get (o + 1) (by omega)
  refine (put16 g o n c (a + 256 * b) (by omega) x0 x1 w hn c0 c1 (hr.frozen _) (hr.frozen _)).mono ?_
  rintro e w' ⟨rfl, rfl⟩
  refine ⟨rfl, ?_⟩
  have e1 : (a + 256 * b) % 256 = a := by omega
  have e2 : (a + 256 * b) / 256 % 256 = b := by omega
  rw [le2, e1, e2]
  exact put_cells _ hr (by simp [bc]; omega)

set_option maxRecDepth 100000 in
set_option maxHeartbeats 1000000 in
theorem put3or4 (g o L c x : Nat) (cur : List Value) (w : World) (h0 : 16384 ≤ x) (h1 : x < 268435456) (hr : Row w g cur) (hL : 4 ≤ L) (ho : o + L ≤ cur.length) :
    Calls Tryd.prog 44 #[.slice (some ⟨g, o, none⟩) L c, .int .u64 (x : Int)] w fun e w' => e = .returned (.int .i64 (ulen x : Int)) ∧ Put w w' g (splice cur o (uc x)) := by
  have harr := fun W : World => run_arrayAt (P := Tryd.prog) W 106 5 4 (some ⟨g, o, none⟩) L c Tryd.underlying106 hL
  obtain ⟨S, hS⟩ : ∃ S, S = spread4 x := ⟨_, rfl⟩
  have HS : Hid (S = spread4 x) := hS
  have hs4 : S < 2139062144 := by rw [hS]; exact spread4_lt x
  have w1 := first_word x
  have w3 := last_word3 x
  have w4 := last_word4 x
  rw [← hS] at w1 w3 w4
  have W1 : Hid _ := w1
  have W3 : Hid _ := w3
  have W4 : Hid _ := w4
  clear hS w1 w3 w4
  have H1 : Hid (x < 268435456) := h1
  have H0 : Hid (16384 ≤ x) := h0
  have hw1 : IntKind.i64.wrap 1 = 1 := by decide
  have hw2 : IntKind.i64.wrap 2 = 2 := by decide
  by_cases hx : x < 2097152
  · have hd : decide ((2097152 : Int) ≤ (x : Int)) = false := decide_eq_false (by omega)
    have HX : Hid (x < 2097152) := hx
    clear h0 hx
    go_enter Tryd.func44, Tryd.ntmps44
    go_wp2_with fail
    refine (quad_any x w h1).mono ?_
    rw [← HS.out]
    rintro e w' ⟨rfl, hw⟩
    rw [hw]; clear hw w' h1
    go_wp2
    go_region_with (go_at_call 53; refine (put16r g o 4 4 _ (x % 128 + 128) (x / 128 % 128 + 128) cur w.drew W1.out (by omega) (by omega) (by omega) hr (by omega)).mono ?_; rintro e w2 ⟨rfl, P1⟩)
    go_wp2
    go_region_with (go_at_call 53; refine (put16r g (o + 1) 3 3 _ (x / 128 % 128 + 128) (x / 16384 % 128) _ w2.drew W3.out (by omega) (by omega) (by omega) P1.1 (by rw [length_splice _ _ _ (by simp [bc]; omega)]; omega)).mono ?_; rintro e w3 ⟨rfl, P2⟩)
    go_wp2
    go_ret
    have hx := HX.out
    have h0 := H0.out
    have P := P1.of_drew.trans P2.of_drew
    rw [splice_splice cur _ _ o 1 (by simp [bc]) (by simp [bc]) (by simp [bc]; omega)] at P
    have e1 : ulen x = 3 := by have := ulen_cases x; omega
    have e2 : uc x = (bc [((x % 128 + 128 : Nat) : Int), ((x / 128 % 128 + 128 : Nat) : Int)]).take 1 ++ bc [((x / 128 % 128 + 128 : Nat) : Int), ((x / 16384 % 128 : Nat) : Int)] := by
      unfold uc ui
      rw [uv3 x h0 hx, show x / 16384 % 128 = x / 16384 by omega]
      rfl
    rw [e1, e2]
    exact ⟨rfl, P⟩
  · have hd : decide ((2097152 : Int) ≤ (x : Int)) = true := decide_eq_true (by omega)
    have HX : Hid (2097152 ≤ x) := by unfold Hid; omega
    clear h0 hx
    go_enter Tryd.func44, Tryd.ntmps44
    go_wp2_with fail
    refine (quad_any x w h1).mono ?_
    rw [← HS.out]
    rintro e w' ⟨rfl, hw⟩
    rw [hw]; clear hw w' h1
    go_wp2
    go_region_with (go_at_call 53; refine (put16r g o 4 4 _ (x % 128 + 128) (x / 128 % 128 + 128) cur w.drew W1.out (by omega) (by omega) (by omega) hr (by omega)).mono ?_; rintro e w2 ⟨rfl, P1⟩)
    go_wp2
    go_region_with (go_at_call 53; refine (put16r g (o + 2) 2 2 _ (x / 16384 % 128 + 128) (x / 2097152 % 128) _ w2.drew W4.out (by omega) (by omega) (by omega) P1.1 (by rw [length_splice _ _ _ (by simp [bc]; omega)]; omega)).mono ?_; rintro e w3 ⟨rfl, P2⟩)
    go_wp2
    go_ret
    have hx := HX.out
    have h1 := H1.out
    have P := P1.of_drew.trans P2.of_drew
    rw [splice_splice cur _ _ o 2 (by simp [bc]) (by simp [bc]) (by simp [bc]; omega)] at P
    have e1 : ulen x = 4 := by have := ulen_cases x; omega
    have e2 : uc x = (bc [((x % 128 + 128 : Nat) : Int), ((x / 128 % 128 + 128 : Nat) : Int)]).take 2 ++ bc [((x / 16384 % 128 + 128 : Nat) : Int), ((x / 2097152 % 128 : Nat) : Int)] := by
      unfold uc ui
      rw [uv4 x hx h1, show x / 2097152 % 128 = x / 2097152 by omega]
      rfl
    rw [e1, e2]
    exact ⟨rfl, P⟩
end Go.Proofs.Qxb6608669aDoor
