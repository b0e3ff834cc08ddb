/-
  Seat b6608669aD: bytes appended to an empty slice that has room of its own, in a known row, or none: the relation 'App', and appendBytewise. By an AI agent.
-/
import Derived.Test.Qxb6608669aDoorNine
import Derived.ArgAppend
namespace Go.Proofs.Qxb6608669aDoor
open Go.RowKit

theorem grown_any {w w' : World} (h : w.grownBy w' none) (row : Option Nat) : w.grownBy w' row := ⟨h.os, h.tape, h.output, h.size, fun k hk _ => h.block k hk (by simp)⟩

/-- The row that may be written: none where there is no room. -/
def rowOf (c g : Nat) : Option Nat := if c = 0 then none else some g

/-- WHAT IS KNOWN OF THE EMPTY SLICE '.slice ao 0 c'. -/
structure Came0 (w : World) (ao : Option Addr) (g o c : Nat) (cur : List Value) : Prop where
  nil : ao = none → c = 0
  addr : 0 < c → ao = some ⟨g, o, none⟩
  row : 0 < c → Row w g cur
  fits : 0 < c → o + c ≤ cur.length
  shape : ∀ a, ao = some a → ∃ b f, a = ⟨b, f, none⟩

/-- m BYTES, the cells ks, HAVE BEEN APPENDED TO IT: in place, or (no room) in a row of the call's own. -/
structure App (w0 : World) (ao : Option Addr) (g o c : Nat) (cur : List Value) (w : World) (v : Value) (m : Nat) (ks : List Value) : Prop where
  len : ks.length = m
  grown : w0.grownBy w (rowOf c g)
  row : 0 < c → ∃ cur', Row w g cur' ∧ cur'.length = cur.length ∧ cur'.take o = cur.take o
  val : (m ≤ c ∧ v = .slice ao m c ∧ (0 < c → Row w g (splice cur o ks))) ∨ (c < m ∧ w.ownsRow w0.heap.size 5 1 v m ks)

variable {w0 w : World} {ao : Option Addr} {g o c m : Nat} {cur ks : List Value} {v : Value}

theorem splice_nil (cur : List Value) (o : Nat) : splice cur o [] = cur := by simp [splice]
theorem splice_take (cur cs : List Value) (o : Nat) (h : o ≤ cur.length) : (splice cur o cs).take o = cur.take o := by
  unfold splice
  rw [List.take_append_of_le_length (by simp; omega), List.take_take, Nat.min_self]

theorem Came0.start (h : Came0 w0 ao g o c cur) : App w0 ao g o c cur w0 (.slice ao 0 c) 0 [] :=
  ⟨rfl, World.grownBy.refl _ _, fun hc => ⟨cur, h.row hc, rfl, rfl⟩, .inl ⟨Nat.zero_le _, rfl, fun hc => by rw [splice_nil]; exact h.row hc⟩⟩

theorem App.alloc (h : App w0 ao g o c cur w v m ks) (ob : Obj) : App w0 ao g o c cur (w.alloc ob) v m ks := by
  refine ⟨h.len, Lib.grownBy_trans h.grown (World.grownBy_alloc w ob _), fun hc => ?_, ?_⟩
  · obtain ⟨cur', r, h1, h2⟩ := h.row hc
    exact ⟨cur', r.alloc ob, h1, h2⟩
  · rcases h.val with ⟨h1, h2, h3⟩ | ⟨h1, h2⟩
    · exact .inl ⟨h1, h2, fun hc => (h3 hc).alloc ob⟩
    · exact .inr ⟨h1, h2.alloc ob⟩

theorem Row.kept {w w' : World} {g : Nat} {cur : List Value} {row : Option Nat} (h : Row w g cur) (hg : w.grownBy w' row) (hr : some g ≠ row) : Row w' g cur := by
  have hl := h.lt
  unfold Row at *
  rw [hg.block g hl hr]; exact h

/-- ONE BYTE MORE. -/
theorem run_append_app (hcm : Came0 w0 ao g o c cur) (h : App w0 ao g o c cur w v m ks) (hm : m ≤ 100) (ty : TypeId) (ad : Addr) (c1 : Nat) (nv : Value) (hnv : w.cell? ad = some nv) (h1 : nv.oneCell' = true) :
    ∃ v' w', (Builtin.append_ #[22, 22] ty #[v, .slice (some ad) 1 c1]).run Tryd.prog w = .ok v' w' ∧ App w0 ao g o c cur w' v' (m + 1) (ks ++ [nv]) := by
  obtain ⟨i, hi, hz0, hz1, hz2⟩ := info_parts Tryd.info5
  have hnews : ∀ j u, [nv][j]? = some u → w.cell? (ad.add j) = some u := by
    intro j u hu
    match j, hu with
    | 0, hu => simp at hu; subst hu; simpa [Addr.add] using hnv
  have hone : ∀ u ∈ [nv], u.oneCell' = true := by intro u hu; simp at hu; subst hu; exact h1
  have hlen : (ks ++ [nv]).length = m + 1 := by simp [h.len]
  have hsz := h.grown.size
  have hgl : 0 < c → g < w0.heap.size := fun hc => (hcm.row hc).lt
  rcases h.val with ⟨hle, rfl, hrow⟩ | ⟨hgt, hown⟩
  · by_cases hr : m + 1 ≤ c
    · -- there is room
      have hc : 0 < c := by omega
      have hao := hcm.addr hc
      have hfit := hcm.fits hc
      have R := hrow hc
      have hls : (splice cur o ks).length = cur.length := length_splice _ _ _ (by rw [h.len]; omega)
      have hrun := run_append_room_cells (P := Tryd.prog) w 22 ty 5 i Tryd.underlying22 hi g o m c ad 1 c1 [nv] (by simp [hz1]) hnews hone hr
        (fun j hj => by
          obtain ⟨x, hx⟩ := R.get (o + m * i.size + j) (by simp at hj; subst hj; rw [hz1, hls]; omega)
          rw [hx]; rfl)
        (fun j _ => R.frozen _)
      rw [hz1, Nat.mul_one] at hrun
      obtain ⟨r1, r2⟩ := row_setCells g [nv] (splice cur o ks) (o + m) w R (by rw [hls]; simp; omega)
      rw [splice_splice cur ks [nv] o m (by rw [h.len]; omega) (by rw [h.len]; simp) (by simp; omega), List.take_of_length_le (by rw [h.len]; omega)] at r1
      subst hao
      refine ⟨_, _, hrun, hlen, Lib.grownBy_trans h.grown (by unfold rowOf; rw [if_neg (by omega)]; exact r2), fun _ => ⟨_, r1, length_splice _ _ _ (by rw [hlen]; omega), splice_take _ _ _ (by omega)⟩, .inl ⟨hr, rfl, fun _ => r1⟩⟩
    · -- the room is used up: a new row
      have fin : ∀ v' w', w.grownBy w' none → w'.ownsRow w0.heap.size 5 1 v' (m + 1) (ks ++ [nv]) → App w0 ao g o c cur w' v' (m + 1) (ks ++ [nv]) := by
        intro v' w' hg ho
        refine ⟨hlen, Lib.grownBy_trans h.grown (grown_any hg _), fun hc => ?_, .inr ⟨by omega, ho⟩⟩
        obtain ⟨cur', r, e1, e2⟩ := h.row hc
        exact ⟨cur', r.kept hg (by simp), e1, e2⟩
      cases ao with
      | none =>
        obtain rfl := hcm.nil rfl
        obtain rfl : m = 0 := by omega
        obtain rfl := List.eq_nil_of_length_eq_zero h.len
        obtain ⟨v', w', hrun, q1, q2, _⟩ := run_append_own (P := Tryd.prog) w w0.heap.size 22 ty 5 i (.int .u8 0) 1 1 Tryd.underlying22 hi hz0 hz1 hz2 rfl (by decide) (.slice none 0 0) 0 [] (World.ownsRow_nil w _ _ _) ad 1 c1 [nv] rfl hnews hone (by unfold maxLen; omega) (by omega) hsz
        exact ⟨v', w', hrun, fin v' w' q2 q1⟩
      | some b =>
        have holds : ∀ j u, ks[j]? = some u → w.cell? (b.add j) = some u := by
          intro j u hu
          have hj : j < m := by rw [← h.len]; exact (List.getElem?_eq_some_iff.1 hu).1
          have hc : 0 < c := by omega
          have hb := Option.some.inj (hcm.addr hc)
          subst hb
          rw [Addr.add_lit, (hrow hc).cell, splice_get _ _ _ _ (by rw [h.len]; have := hcm.fits hc; omega), if_neg (by omega), if_pos (by rw [h.len]; omega), show o + j - o = j by omega]
          exact hu
        obtain ⟨v', w', hrun, q1, q2⟩ := run_append_arg_grows (P := Tryd.prog) w 22 ty 5 i (.int .u8 0) 1 1 Tryd.underlying22 hi hz0 hz1 hz2 rfl (by decide) b m c ks (by rw [h.len]; omega) holds ad 1 c1 [nv] rfl hnews (by omega) (by unfold maxLen; omega) (by omega)
        refine ⟨v', w', hrun, fin v' w' q2 ⟨q1.1, ?_⟩⟩
        rcases q1.2 with h' | ⟨g', cap', cur', h1', h2', h3'⟩
        · exact .inl h'
        · exact .inr ⟨g', cap', cur', h1', by omega, h3'⟩
  · -- it is the call's own already
    obtain ⟨v', w', hrun, q1, q2, _⟩ := run_append_own (P := Tryd.prog) w w0.heap.size 22 ty 5 i (.int .u8 0) 1 1 Tryd.underlying22 hi hz0 hz1 hz2 rfl (by decide) v m ks hown ad 1 c1 [nv] rfl hnews hone (by unfold maxLen; omega) (by omega) hsz
    have hob : ∀ k, k < w0.heap.size → some k ≠ v.ownBlock := fun k hk e => by have := (hown.lt k e.symm).1; omega
    refine ⟨v', w', hrun, hlen, ⟨q2.os.trans h.grown.os, q2.tape.trans h.grown.tape, q2.output.trans h.grown.output, Nat.le_trans hsz q2.size, fun k hk hne => (q2.block k (by omega) (hob k hk)).trans (h.grown.block k hk hne)⟩, fun hc => ?_, .inr ⟨by omega, q1⟩⟩
    obtain ⟨cur', r, e1, e2⟩ := h.row hc
    exact ⟨cur', r.kept q2 (hob g (hgl hc)), e1, e2⟩

/-- .. for the walk. -/
theorem wpList_append_app {ops : Array Oper} {rest : List Oper} {op : Oper} {a : Act} {Q : Exit → Act → World → Prop} (hgd : op.guard = none) (s x : Operand)
    (hop : op.op = .call { callee := .builtin .append, args := #[s, x], argTypes := #[22, 22] }) (hcm : Came0 w0 ao g o c cur) (h : App w0 ao g o c cur w v m ks) (hm : m ≤ 100) (hs : a.eval s = v) (ad : Addr) (c1 : Nat) (nv : Value)
    (hx : a.eval x = .slice (some ad) 1 c1) (hnv : w.cell? ad = some nv) (h1 : nv.oneCell' = true)
    (hK : ∀ v' w', App w0 ao g o c cur w' v' (m + 1) (ks ++ [nv]) → wpList Tryd.prog ops Q rest (a.put op.dst v') w') : wpList Tryd.prog ops Q (op :: rest) a w := by
  refine wpList_plain hgd fun K hK' => ?_
  obtain ⟨v', w', hrun, r⟩ := run_append_app hcm h hm op.type ad c1 nv hnv h1
  unfold Oper.wp
  simp [execOp, hop, resolve, invoke, builtin, hs, hx, hrun, Result.andThen]
  exact hK' _ _ (hK v' w' r)

/-- Where the bytes lie at the end. -/
theorem App.value (hcm : Came0 w0 ao g o c cur) (h : App w0 ao g o c cur w v m ks) (hm : 0 < m) :
    ∃ a' c', v = .slice (some a') m c' ∧ (∀ j u, ks[j]? = some u → w.cell? (a'.add j) = some u) ∧ ((0 < c ∧ a'.block = g) ∨ w0.heap.size ≤ a'.block) := by
  rcases h.val with ⟨h1, rfl, h3⟩ | ⟨h1, h2⟩
  · have hc : 0 < c := by omega
    refine ⟨⟨g, o, none⟩, c, by rw [hcm.addr hc], fun j u hu => ?_, .inl ⟨hc, rfl⟩⟩
    have hj : j < m := by rw [← h.len]; exact (List.getElem?_eq_some_iff.1 hu).1
    rw [Addr.add_lit, (h3 hc).cell, splice_get _ _ _ _ (by rw [h.len]; have := hcm.fits hc; omega), if_neg (by omega), if_pos (by rw [h.len]; omega), show o + j - o = j by omega]
    exact hu
  · rcases h2.2 with ⟨_, h0⟩ | ⟨g', cap', cur', rfl, h4, h5⟩
    · omega
    · exact ⟨_, cap', rfl, h2.cells (g := g') rfl, .inr h4⟩

end Go.Proofs.Qxb6608669aDoor
