/-
  Seat b6608763a: ShuffleReply.appendFields, ZZAppendShuffleReply. By an AI agent.
-/
import Derived.Test.Qxb6608763aList
namespace Go.Proofs.Qxb6608763a
open Go.RowKit

set_option maxRecDepth 100000 in
set_option maxHeartbeats 1000000 in
/-- appendFields over whatever list: what AppendList writes is L. -/
theorem fields_list (B n : Nat) (sv : Value) (ia : Option Addr) (m mc : Nat) (zs L : List Int) (w : World) (h : w.ownsRow B 5 1 sv n (bc zs)) (hB : B ≤ w.heap.size) (hn : n ≤ 2097152)
    (hL : ∀ (w1 : World) (v1 : Value), w.heap.size < w1.heap.size → Fine B (w.alloc (.cells #[.slice ia m mc] 47)).drew w1 sv v1 (n + (hd 4 1).length) (bc (zs ++ hd 4 1)) →
      Calls Try.prog 26 #[v1, .slice ia m mc, .func (.func 28) #[] #[]] w1 fun e w' => ∃ v', e = .returned v' ∧ Grew B w1 w' v1 v' (n + (hd 4 1).length + L.length) (zs ++ hd 4 1 ++ L)) :
    Calls Try.prog 23 #[.agg #[.slice ia m mc], sv] w fun e w' => ∃ v', e = .returned v' ∧ Grew B w w' sv v' (n + (hd 4 1 ++ L).length) (zs ++ (hd 4 1 ++ L)) := by
  have hlt : ∀ k, sv.ownBlock = some k → k < w.heap.size := fun k hk => (h.lt k hk).2
  obtain ⟨a, cp, rfl, -, -, -, -⟩ := owns_lies h
  have c0 : (w.alloc (.cells #[.slice ia m mc] 47)).cell? ⟨w.heap.size, 0, none⟩ = some (.slice ia m mc) := by rw [World.cell?_alloc_new]; rfl
  have HC := arr_any B 1 n (.slice a n cp) zs (w.alloc (.cells #[.slice ia m mc] 47)).drew (h.alloc _) (by show B ≤ (w.alloc _).heap.size; simp; omega) (by omega) (by omega)
  have HF : Hid (∀ (w' : World) (v' : Value) (n' : Nat) (xs : List Value), Fine B (w.alloc (.cells #[.slice ia m mc] 47)) w' (.slice a n cp) v' n' xs → Fine B w w' (.slice a n cp) v' n' xs) := fun w' v' n' xs h => h.of_alloc _
  have hsz : w.heap.size < (w.alloc (.cells #[.slice ia m mc] 47)).heap.size := by simp
  have HNE : Hid ((Value.slice a n cp).ownBlock ≠ some w.heap.size) := fun e => by have := hlt _ e; omega
  have HSZ := hid hsz
  have HL := hid hL
  clear h hB hn hL hlt hsz
  go_enter Try.func23, Try.ntmps23
  go_wp2
  generalize w.alloc (.cells #[.slice ia m mc] 47) = W at *
  go_region_with (first
    | (go_at_call 27; refine HC.mono ?_; rintro e w1 ⟨v1, rfl, g1⟩; have c0' := Fine.cell (w := W.drew) g1 (a := ⟨w.heap.size, 0, none⟩) c0 HNE.out; have HC3 := HL.out w1 v1 (Nat.lt_of_lt_of_le HSZ.out g1.grown.size) g1; have G1 := hid g1; clear g1)
    | (go_at_call 26; refine HC3.mono ?_; rintro e w2 ⟨v2, rfl, g2⟩; have G2 := hid (G1.out.trans g2); clear g2))
  all_goals
    have G3 := hid (HF.out _ _ _ _ G2.out.of_drew)
    clear HC HC3
    go_wp2
    go_ret
    exact ⟨_, rfl, G3.out.cast (by simp only [List.length_append]; omega) (by simp only [List.append_assoc])⟩

set_option maxHeartbeats 400000 in
theorem zzreply (P : Ending → World → Prop) (sv : Value) (w : World) (ia : Option Addr) (m mc : Nat) (a : Option Addr) (n c : Nat) (hs : sv = .slice a n c)
    (h : Calls Try.prog 23 #[.agg #[.slice ia m mc], sv] w P) (hP : ∀ e w', P e w' → ∃ v', e = .returned v') :
    Calls Try.prog 10 #[sv, .slice ia m mc] w P := by
  subst hs
  go_enter Try.func10, Try.ntmps10
  go_wp2_with fail
  refine h.mono ?_
  intro e w' he
  obtain ⟨v', rfl⟩ := hP _ _ he
  have HE := hid he
  clear he h
  go_wp2
  exact HE.out

/-- ZZAppendShuffleReply, a nil list. -/
theorem reply_nil (B n : Nat) (sv : Value) (zs : List Int) (w : World) (h : w.ownsRow B 5 1 sv n (bc zs)) (hB : B ≤ w.heap.size) (hn : n ≤ 2097152) :
    Calls Try.prog 10 #[sv, .slice none 0 0] w fun e w' => ∃ v', e = .returned v' ∧ Grew B w w' sv v' (n + (hd 4 1 ++ [246]).length) (zs ++ (hd 4 1 ++ [246])) := by
  obtain ⟨a, c, hsv, -, -, -, -⟩ := owns_lies h
  refine zzreply _ sv w none 0 0 a n c hsv (fields_list B n sv none 0 0 zs [246] w h hB hn ?_) (fun e w' ⟨v', he, _⟩ => ⟨v', he⟩)
  intro w1 v1 hlt g1
  exact list_nil B _ v1 _ _ w1 g1.own (by omega) (by have := hd_length_le 4 1; omega)

/-- ZZAppendShuffleReply, a list. -/
theorem reply_some (B n m mc b o : Nat) (sv : Value) (zs : List Int) (ss : List ByteArray) (w : World) (h : w.ownsRow B 5 1 sv n (bc zs)) (hB : B ≤ w.heap.size) (hm : ss.length = m) (hn : n + 18 + wt ss ≤ 2097152)
    (hI : ∀ j, j < m → w.cell? ⟨b, o + j, none⟩ = some (.string (ss.getD j ByteArray.empty))) (hne : sv.ownBlock ≠ some b) (hb : b < w.heap.size) :
    Calls Try.prog 10 #[sv, .slice (some ⟨b, o, none⟩) m mc] w fun e w' => ∃ v', e = .returned v' ∧ Grew B w w' sv v' (n + (hd 4 1 ++ (hd 4 m ++ flL ss)).length) (zs ++ (hd 4 1 ++ (hd 4 m ++ flL ss))) := by
  obtain ⟨a, c, hsv, -, -, -, -⟩ := owns_lies h
  refine zzreply _ sv w (some ⟨b, o, none⟩) m mc a n c hsv (fields_list B n sv (some ⟨b, o, none⟩) m mc zs (hd 4 m ++ flL ss) w h hB (by omega) ?_) (fun e w' ⟨v', he, _⟩ => ⟨v', he⟩)
  intro w1 v1 hlt g1
  refine list_some B _ m mc b o v1 _ ss w1 g1.own (by omega) hm (by have := hd_length_le 4 1; omega) (fun j hj => ?_) (fun e => ?_)
  · refine g1.cell (w := (w.alloc (.cells #[.slice (some ⟨b, o, none⟩) m mc] 47)).drew) ?_ hne
    show (w.alloc _).cell? _ = _
    rw [World.cell?_alloc_lt _ _ _ hb]
    exact hI j hj
  · rcases g1.blk b e with h' | h'
    · exact hne h'
    · have : (w.alloc (.cells #[.slice (some ⟨b, o, none⟩) m mc] 47)).drew.heap.size = w.heap.size + 1 := by show (w.alloc _).heap.size = _; simp
      omega
end Go.Proofs.Qxb6608763a
