/-
  Seat b6608763a: appendNodeID, AppendList, ShuffleReply.appendFields, ZZAppendShuffleReply. By an AI agent.
-/
import Derived.Test.Qxb6608763aText
import Derived.Handy
namespace Go.Proofs.Qxb6608763a
open Go.RowKit

/-- One member's text. -/
def itL (s : ByteArray) : List Int := hd 3 s.size ++ sb s
def flL (ss : List ByteArray) : List Int := ss.flatMap itL
theorem itL_le (s : ByteArray) : (itL s).length ≤ 9 + s.size := by
  unfold itL
  have := hd_length_le 3 s.size
  rw [List.length_append, sb_length]
  omega

/-- The sum of the lengths, a head for each. -/
def wt (ss : List ByteArray) : Nat := (ss.map fun s => 9 + s.size).sum
theorem flL_le : ∀ ss : List ByteArray, (flL ss).length ≤ wt ss
  | [] => Nat.le_refl _
  | s :: r => by
    have h1 := itL_le s
    have h2 := flL_le r
    simp only [flL, wt, List.flatMap_cons, List.length_append, List.map_cons, List.sum_cons] at *
    omega
theorem flL_snoc (ss : List ByteArray) (k : Nat) (h : k < ss.length) : flL (ss.take (k + 1)) = flL (ss.take k) ++ itL (ss.getD k ByteArray.empty) := by
  unfold flL
  rw [List.take_add_one, List.flatMap_append, List.getElem?_eq_getElem h]
  simp [List.getD, h]

theorem wt_len : ∀ ss : List ByteArray, ss.length ≤ wt ss
  | [] => Nat.le_refl _
  | s :: r => by
    have h2 := wt_len r
    simp only [wt, List.length_cons, List.map_cons, List.sum_cons] at *
    omega

theorem wt_get : ∀ (ss : List ByteArray) (k : Nat), k < ss.length → wt (ss.take k) + (ss.getD k ByteArray.empty).size ≤ wt ss
  | [], _, h => by simp at h
  | s :: r, 0, _ => by simp [wt, List.getD]; omega
  | s :: r, k + 1, h => by
    have h2 := wt_get r k (by simpa using h)
    simp only [wt, List.take_succ_cons, List.map_cons, List.sum_cons, List.getD, List.getElem?_cons_succ] at *
    omega

/-- The strings ss lie from a on. -/
def SLies (w : World) (a : Option Addr) (ss : List ByteArray) : Prop := ∀ j, j < ss.length → ∃ x, a = some x ∧ w.cell? (x.add j) = some (.string (ss.getD j ByteArray.empty))

theorem nid_any (B n : Nat) (sv : Value) (zs : List Int) (s : ByteArray) (w : World) (h : w.ownsRow B 5 1 sv n (bc zs)) (hB : B ≤ w.heap.size) (hn : n ≤ 4194304) (hs : s.size ≤ 2097152) :
    Calls Try.prog 28 #[sv, .string s] w fun e w' => ∃ v', e = .returned v' ∧ Grew B w w' sv v' (n + (itL s).length) (zs ++ itL s) := by
  have HC := text_any B n sv zs s w h hB hn hs
  obtain ⟨a, cp, rfl, -, -, -, -⟩ := owns_lies h
  clear h
  go_enter Try.func28, Try.ntmps28
  go_wp2_with fail
  refine HC.mono ?_
  rintro e w' ⟨v', rfl, hG⟩
  have HG := hid hG
  clear hG HC
  go_wp2
  go_ret
  exact ⟨_, rfl, HG.out⟩

theorem list_nil (B n : Nat) (sv fv : Value) (zs : List Int) (w : World) (h : w.ownsRow B 5 1 sv n (bc zs)) (hB : B ≤ w.heap.size) (hn : n ≤ 4194304) :
    Calls Try.prog 26 #[sv, .slice none 0 0, fv] w fun e w' => ∃ v', e = .returned v' ∧ Grew B w w' sv v' (n + [246].length) (zs ++ [246]) := by
  have hnil := fun (w : World) (a : Option Addr) (n c : Nat) => Lib.run_eql_slice_nil (P := Try.prog) w 26 45 a n c 0 0 Try.underlying26
  obtain ⟨v2, w2, hap, g2⟩ := app_eq B n sv zs [246] w h hB (by simp; omega)
  obtain ⟨a, cp, rfl, -, -, -, -⟩ := owns_lies h
  have HG := hid g2
  have HAP := hid hap
  clear h g2 hap
  go_enter Try.func26, Try.ntmps26
  go_wp2_with (at_builtin; refine wpList_app rfl (.tmp 11) (.tmp 12) 22 22 rfl _ _ rfl rfl HAP.out ?_)
  go_ret
  exact ⟨_, rfl, HG.out⟩

set_option maxRecDepth 100000 in
set_option maxHeartbeats 1000000 in
theorem list_some (B n m mc b o : Nat) (sv : Value) (zs : List Int) (ss : List ByteArray) (w : World) (h : w.ownsRow B 5 1 sv n (bc zs)) (hB : B ≤ w.heap.size) (hm : ss.length = m) (hn : n + 9 + wt ss ≤ 2097152)
    (hI : ∀ j, j < m → w.cell? ⟨b, o + j, none⟩ = some (.string (ss.getD j ByteArray.empty))) (hne : sv.ownBlock ≠ some b) :
    Calls Try.prog 26 #[sv, .slice (some ⟨b, o, none⟩) m mc, .func (.func 28) #[] #[]] w fun e w' => ∃ v', e = .returned v' ∧ Grew B w w' sv v' (n + (hd 4 m ++ flL ss).length) (zs ++ (hd 4 m ++ flL ss)) := by
  have hnil := fun (w : World) (a : Option Addr) (n c : Nat) => Lib.run_eql_slice_nil (P := Try.prog) w 26 45 a n c 0 0 Try.underlying26
  have HC := arr_any B m n sv zs w h hB (by omega) (by have : m ≤ wt ss := by rw [← hm]; exact wt_len ss
                                                       omega)
  obtain ⟨a, cp, rfl, -, -, -, -⟩ := owns_lies h
  have H := hid (And.intro hB (And.intro hm (And.intro hn (And.intro hI hne))))
  clear h hB hm hn hI hne
  go_enter Try.func26, Try.ntmps26
  go_wp2_with fail
  refine HC.mono ?_
  rintro e w1 ⟨v1, rfl, g1⟩
  have G1 := hid g1
  clear HC g1
  go_wp2
  go_loopw [0, 20] (fun d i wr => ∃ k : Nat, k ≤ m ∧ i = .int .i64 (k : Int) ∧ Hid (Grew B w wr (.slice a n cp) d (n + (hd 4 m ++ flL (ss.take k)).length) (zs ++ (hd 4 m ++ flL (ss.take k))))) (fun _ i _ => m - (intOf i).toNat)
  case atStart => exact ⟨0, Nat.zero_le _, rfl, G1.out.cast (by simp [flL]) (by simp [flL])⟩
  case round =>
    obtain ⟨k, hk, rfl, hG⟩ := hrel
    by_cases hlt : k < m
    · obtain ⟨s, hs⟩ : ∃ s, s = ss.getD k ByteArray.empty := ⟨_, rfl⟩
      have g := hG.out.cell (H.out.2.2.2.1 k hlt) H.out.2.2.2.2
      rw [← hs] at g
      have hsz : s.size ≤ 2097152 ∧ n + (hd 4 m ++ flL (ss.take k)).length ≤ 4194304 := by
        have h1 := wt_get ss k (by rw [H.out.2.1]; exact hlt)
        have h2 := flL_le (ss.take k)
        have h3 := hd_length_le 4 m
        have h4 := H.out.2.2.1
        rw [← hs] at h1
        rw [List.length_append]
        omega
      have HC := nid_any B _ _ _ s wr hG.out.own (Nat.le_trans H.out.1 hG.out.grown.size) hsz.2 hsz.1
      have HS := hid hs
      have hlt' : (k : Int) < (m : Int) := by omega
      have hmb : m ≤ 2097152 := by have h1 := wt_len ss; have h2 := H.out; omega
      clear hs hsz
      go_wp2_with fail
      refine HC.mono ?_
      rintro e w2 ⟨v2, rfl, g2⟩
      have G2 := hid (hG.out.trans g2)
      clear HC g2
      go_wp2
      refine ⟨⟨k + 1, by omega, by go_num, ?_⟩, by simp [intOf]; omega⟩
      have e1 := flL_snoc ss k (by rw [H.out.2.1]; exact hlt)
      rw [← HS.out] at e1
      exact G2.out.cast (by rw [e1]; simp only [List.length_append]; omega) (by rw [e1]; simp only [List.append_assoc])
    · obtain rfl : k = m := by omega
      go_wp2
      go_ret
      refine ⟨_, rfl, ?_⟩
      have := hG.out
      rw [List.take_of_length_le (by rw [H.out.2.1]; exact Nat.le_refl _)] at this
      exact this

theorem saddr_of {w : World} {a : Option Addr} {ss : List ByteArray} (h : SLies w a ss) (h0 : 0 < ss.length) : ∃ b off, a = some ⟨b, off, none⟩ ∧ ∀ j, j < ss.length → w.cell? ⟨b, off + j, none⟩ = some (.string (ss.getD j ByteArray.empty)) := by
  obtain ⟨x, rfl, hx⟩ := h 0 h0
  obtain ⟨b, off, spot⟩ := x
  have hspot : spot = none := by simpa [Addr.add] using World.cell?_spot hx
  subst hspot
  refine ⟨b, off, rfl, fun j hj => ?_⟩
  obtain ⟨y, hy, hc⟩ := h j hj
  obtain rfl := Option.some.inj hy
  rw [← Addr.add_lit]; exact hc
end Go.Proofs.Qxb6608763a
