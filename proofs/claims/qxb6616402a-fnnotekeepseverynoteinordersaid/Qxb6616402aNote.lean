/-
  SEAT b6616402a. A Previous: its block, the row of its notes, and the contracts of ZZnewPrevious (22), note (32), ZZnote (23), ZZnotedLen (24), ZZnotedAt (25), ZZpreviousState (26).
-/
import Derived.Test.Qxb6616402aBase
import Derived.Deep.AppendLies
namespace Go.Proofs.Qxb6616402a
open Go.RowKit
set_option linter.unusedVariables false

/-- A note: where it starts and ends, and the field that it was read into. -/
structure Nt where
  s : Int
  e : Int
  p : Addr

/-- The cells of the notes of the indices I, in their order. -/
def ntCells (x : Nt) : List Value := [.int .i64 x.s, .int .i64 x.e, .pointer (some x.p)]
def rowOf (nt : Nat → Nt) (I : List Nat) : List Value := I.flatMap fun i => ntCells (nt i)

theorem rowOf_snoc (nt : Nat → Nt) (I : List Nat) (k : Nat) : rowOf nt (I ++ [k]) = rowOf nt I ++ [.int .i64 (nt k).s, .int .i64 (nt k).e, .pointer (some (nt k).p)] := by
  simp [rowOf, List.flatMap_append, ntCells]

theorem rowOf_len (nt : Nat → Nt) (I : List Nat) : (rowOf nt I).length = I.length * 3 := by
  induction I with
  | nil => rfl
  | cons i I ih =>
    have : rowOf nt (i :: I) = ntCells (nt i) ++ rowOf nt I := by simp [rowOf]
    rw [this, List.length_append, ih]
    simp [ntCells]
    omega

theorem rowOf_at (nt : Nat → Nt) : ∀ (I : List Nat) (j i : Nat), I[j]? = some i →
    (rowOf nt I)[j * 3]? = some (.int .i64 (nt i).s) ∧ (rowOf nt I)[j * 3 + 1]? = some (.int .i64 (nt i).e) ∧ (rowOf nt I)[j * 3 + 2]? = some (.pointer (some (nt i).p)) := by
  intro I
  induction I with
  | nil => intro j i h; simp at h
  | cons x I ih =>
    intro j i h
    have hc : rowOf nt (x :: I) = ntCells (nt x) ++ rowOf nt I := by simp [rowOf]
    have hl : (ntCells (nt x)).length = 3 := rfl
    match j, h with
    | 0, h =>
      obtain rfl : x = i := by simpa using h
      rw [hc]
      exact ⟨rfl, rfl, rfl⟩
    | j + 1, h =>
      have := ih j i (by simpa using h)
      rw [hc, List.getElem?_append_right (by omega), List.getElem?_append_right (by omega), List.getElem?_append_right (by omega), hl]
      rw [show (j + 1) * 3 - 3 = j * 3 from by omega, show (j + 1) * 3 + 1 - 3 = j * 3 + 1 from by omega, show (j + 1) * 3 + 2 - 3 = j * 3 + 2 from by omega]
      exact this

/-- Block g is a Previous whose notes are those of the indices I; its row lies among the blocks from 'base' on. -/
structure Prev (w : World) (g base : Nat) (tx v : Value) (ch : Int) (mv : Bool) (nt : Nat → Nt) (I : List Nat) : Prop where
  blk : w.heap[g]? = some (.cells #[tx, v, .int .i64 ch, .bool mv] 58 (0, 0))
  own : w.ownsRow base 61 3 v I.length (rowOf nt I)

/-- All but block g and block 'row' is as it was. -/
structure Touched (w w' : World) (g : Nat) (row : Option Nat) : Prop where
  os : w'.os = w.os
  tape : w'.tape = w.tape
  output : w'.output = w.output
  size : w.heap.size ≤ w'.heap.size
  block : ∀ k, k < w.heap.size → k ≠ g → some k ≠ row → w'.heap[k]? = w.heap[k]?

def NotePost (w : World) (g base : Nat) (tx v : Value) (ch : Int) (mv : Bool) (nt : Nat → Nt) (I : List Nat) (k : Nat) (e : Ending) (w' : World) : Prop :=
  e = .returned (.tuple #[]) ∧ ∃ gg cap, Prev w' g base tx (.slice (some ⟨gg, 0, none⟩) (I.length + 1) cap) ch mv nt (I ++ [k]) ∧ (v.ownBlock = some gg ∨ w.heap.size ≤ gg) ∧ Touched w w' g v.ownBlock

theorem Try.info61 : (Try.prog.info? 61).map (fun i => (i.zero, i.size, i.bytes)) = some (some (.agg #[.int .i64 0, .int .i64 0, .pointer none]), 3, 24) := by kernel_rfl

theorem note_any (g base : Nat) (tx v : Value) (ch : Int) (mv : Bool) (nt : Nat → Nt) (I : List Nat) (k : Nat) (w : World) (h : Prev w g base tx v ch mv nt I) (hg : g < base) (hbase : base ≤ w.heap.size) (hI : I.length ≤ 1048576) :
    Calls Try.prog 32 #[.pointer (some ⟨g, 0, none⟩), .int .i64 (nt k).s, .int .i64 (nt k).e, .pointer (some (nt k).p)] w fun e w' => NotePost w g base tx v ch mv nt I k e w' := by
  obtain ⟨hblk, hown⟩ := h
  have c1 : w.cell? ⟨g, 1, none⟩ = some v := by simp [World.cell?, hblk]
  have f1 : w.frozen? ⟨g, 1, none⟩ = false := by simp [World.frozen?, hblk]
  have hgl : g < w.heap.size := by omega
  obtain ⟨i0, hi, hz0, hz1, hz2⟩ := info_parts Try.info61
  have hne : some g ≠ v.ownBlock := by
    intro h
    have := (hown.lt g h.symm).1
    omega
  have HBL : Hid (w.heap[g]? = some (.cells #[tx, v, .int .i64 ch, .bool mv] 58 (0, 0))) := hblk
  clear hblk
  go_enter Try.func32, Try.ntmps32
  go_wp2_with (at_builtin; refine wpList_append_lies _ (by rfl) _ _ 56 (by rfl) base 61 i0 _ 3 24 Try.underlying56 hi hz0 hz1 hz2 rfl (by omega) v I.length (rowOf nt I) (by rfl) (hown.alloc _) ⟨w.heap.size, 0, none⟩ 1 1 [.int .i64 (nt k).s, .int .i64 (nt k).e, .pointer (some (nt k).p)] (by rfl) (by rfl) (World.news_of_block (cs := #[.int .i64 (nt k).s, .int .i64 (nt k).e, .pointer (some (nt k).p)]) (t := 61) (fr := (0, 0)) (heap_alloc_new w _)) (by simp [Value.oneCell']) (by omega) (by unfold maxLen; omega) (by omega) (by simp; omega) (w.heap.size + 1) (by simp) ?_; intro gg cap w2 hown2 hgrow hat hlt; have e1 : w2.cell? ⟨g, 1, none⟩ = some v := (hgrow.cell_far ⟨g, 1, none⟩ (by simp; omega) hne).trans ((World.cell?_alloc_past _ _ _ hgl).trans c1); have e2 : w2.frozen? ⟨g, 1, none⟩ = false := (hgrow.frozen_far ⟨g, 1, none⟩ (by simp; omega) hne).trans ((World.frozen?_alloc_past _ _ _ hgl).trans f1))
  go_end0
  refine ⟨rfl, gg, cap, ⟨?_, ?_⟩, ?_, ?_⟩
  · have hb2 : w2.heap[g]? = some (.cells #[tx, v, .int .i64 ch, .bool mv] 58 (0, 0)) := by
      rw [hgrow.block g (by simp; omega) hne, Below.heap_alloc _ _ _ hgl]
      exact HBL.out
    simp [World.setCell, Array.getElem?_modify, hb2]
  · rw [List.length_append, rowOf_snoc]
    exact ownsRow_setCell_below hown2 hg _
  · rcases hat with h | h
    · exact .inl h
    · exact .inr (by omega)
  · refine ⟨hgrow.os, hgrow.tape, hgrow.output, ?_, ?_⟩
    · have := hgrow.size
      simp at this ⊢
      omega
    · intro j hj hjg hjr
      rw [Below.heap_setCell _ _ _ _ hjg, hgrow.block j (by simp; omega) hjr, Below.heap_alloc _ _ _ hj]

theorem zzNote_any (g base : Nat) (tx v : Value) (ch : Int) (mv : Bool) (nt : Nat → Nt) (I : List Nat) (k : Nat) (w : World) (h : Prev w g base tx v ch mv nt I) (hg : g < base) (hbase : base ≤ w.heap.size) (hI : I.length ≤ 1048576) :
    Calls Try.prog 23 #[.pointer (some ⟨g, 0, none⟩), .int .i64 (nt k).s, .int .i64 (nt k).e, .pointer (some (nt k).p)] w fun e w' => NotePost w g base tx v ch mv nt I k e w' := by
  have HH : Hid (Calls Try.prog 32 #[.pointer (some ⟨g, 0, none⟩), .int .i64 (nt k).s, .int .i64 (nt k).e, .pointer (some (nt k).p)] w fun e w' => NotePost w g base tx v ch mv nt I k e w') := note_any g base tx v ch mv nt I k w h hg hbase hI
  clear h
  go_enter Try.func23, Try.ntmps23
  go_wp2_with fail
  refine HH.out.mono ?_
  rintro e w1 ⟨rfl, hp⟩
  have HP : Hid _ := hp
  clear hp
  go_wp2_with fail
  go_end0
  exact ⟨rfl, HP.out⟩

/-- The form of a value that owns a row. -/
theorem own_form {w : World} {base : Nat} {v : Value} {n : Nat} {xs : List Value} (h : w.ownsRow base 61 3 v n xs) : ∃ a c, v = .slice a n c := by
  rcases h.2 with ⟨rfl, rfl⟩ | ⟨g, cap, cur, rfl, _⟩
  · exact ⟨none, 0, rfl⟩
  · exact ⟨_, _, rfl⟩

theorem notedLen_any (g base : Nat) (tx v : Value) (ch : Int) (mv : Bool) (nt : Nat → Nt) (I : List Nat) (w : World) (h : Prev w g base tx v ch mv nt I) :
    Calls Try.prog 24 #[.pointer (some ⟨g, 0, none⟩)] w fun e w' => e = .returned (.int .i64 I.length) ∧ w' = w := by
  obtain ⟨hblk, hown⟩ := h
  obtain ⟨a, c, rfl⟩ := own_form hown
  have c1 : w.cell? ⟨g, 1, none⟩ = some (.slice a I.length c) := by simp [World.cell?, hblk]
  clear hblk hown
  go_enter Try.func24, Try.ntmps24
  go_wp2_with fail
  go_ret
  exact ⟨rfl, rfl⟩

def AtPost (w : World) (x : Nt) (e : Ending) (w' : World) : Prop :=
  e = .returned (.tuple #[.int .i64 x.s, .int .i64 x.e, .pointer (some x.p)]) ∧ Below w.heap.size w w'

theorem below_drewN' {B : Nat} {a w : World} {m : Nat} (h : Below B a w) : Below B a (w.drewN m) := ⟨h.os, h.tape, h.output, h.size, h.block⟩

theorem notedAt_any (g base : Nat) (tx v : Value) (ch : Int) (mv : Bool) (nt : Nat → Nt) (I : List Nat) (j i : Nat) (w : World) (h : Prev w g base tx v ch mv nt I) (hj : I[j]? = some i) (hI : I.length ≤ 1048576) :
    Calls Try.prog 25 #[.pointer (some ⟨g, 0, none⟩), .int .i64 j] w fun e w' => AtPost w (nt i) e w' := by
  obtain ⟨hblk, hown⟩ := h
  have hjl : j < I.length := by
    rcases Nat.lt_or_ge j I.length with h | h
    · exact h
    · rw [List.getElem?_eq_none h] at hj; cases hj
  obtain ⟨r, cap, rfl, _, hrl⟩ := hown.form (by omega)
  have c1 : w.cell? ⟨g, 1, none⟩ = some (.slice (some ⟨r, 0, none⟩) I.length cap) := by simp [World.cell?, hblk]
  obtain ⟨x0, x1, x2⟩ := rowOf_at nt I j i hj
  have r0 : w.cell? ⟨r, j * 3, none⟩ = some (.int .i64 (nt i).s) := by rw [hown.cellAt _ (by omega)]; exact x0
  have r1 : w.cell? ⟨r, j * 3 + 1, none⟩ = some (.int .i64 (nt i).e) := by rw [hown.cellAt _ (by omega)]; exact x1
  have r2 : w.cell? ⟨r, j * 3 + 2, none⟩ = some (.pointer (some (nt i).p)) := by rw [hown.cellAt _ (by omega)]; exact x2
  have hj0 : (0 : Int) ≤ (j : Int) := by omega
  have hj1 : (j : Int) < (I.length : Int) := by omega
  clear hblk hown hj x0 x1 x2
  go_enter Try.func25, Try.ntmps25
  go_wp2_with fail
  go_quiet (fail)
  go_wp2_with fail
  go_ret3
  exact ⟨rfl, below_drewN' ((Below.refl _ _).alloc (Nat.le_refl _) _)⟩

theorem newPrevious_any (a : Option Addr) (n c : Nat) (ch : Int) (mv : Bool) (w : World) :
    Calls Try.prog 22 #[.slice a n c, .int .i64 ch, .bool mv] w fun e w' => e = .returned (.pointer (some ⟨w.heap.size, 0, none⟩)) ∧ w' = w.alloc (.cells #[.slice a n c, .slice none 0 0, .int .i64 ch, .bool mv] 58) := by
  go_enter Try.func22, Try.ntmps22
  go_wp2_with fail
  go_ret
  exact ⟨rfl, rfl⟩

theorem prev_new (w : World) (a : Option Addr) (n c : Nat) (ch : Int) (mv : Bool) (nt : Nat → Nt) (base : Nat) :
    Prev (w.alloc (.cells #[.slice a n c, .slice none 0 0, .int .i64 ch, .bool mv] 58)) w.heap.size base (.slice a n c) (.slice none 0 0) ch mv nt [] :=
  ⟨heap_alloc_new w _, World.ownsRow_nil _ _ _ _⟩

theorem previousState_any (g base : Nat) (a : Option Addr) (n c : Nat) (v : Value) (ch : Int) (mv : Bool) (nt : Nat → Nt) (I : List Nat) (w : World) (h : Prev w g base (.slice a n c) v ch mv nt I) :
    Calls Try.prog 26 #[.pointer (some ⟨g, 0, none⟩)] w fun e w' => e = .returned (.tuple #[.slice a n c, .int .i64 ch, .bool mv]) ∧ ∃ m, w' = w.drewN m := by
  obtain ⟨hblk, -⟩ := h
  have c0 : w.cell? ⟨g, 0, none⟩ = some (.slice a n c) := by simp [World.cell?, hblk]
  have c2 : w.cell? ⟨g, 2, none⟩ = some (.int .i64 ch) := by simp [World.cell?, hblk]
  have c3 : w.cell? ⟨g, 3, none⟩ = some (.bool mv) := by simp [World.cell?, hblk]
  clear hblk
  go_enter Try.func26, Try.ntmps26
  go_wp2_with fail
  go_quiet (fail)
  go_wp2_with fail
  go_ret3
  exact ⟨rfl, _, rfl⟩

/-- A Previous whose block and whose row are as they were is as it was. -/
theorem Prev.kept {w w' : World} {g base : Nat} {tx v : Value} {ch : Int} {mv : Bool} {nt : Nat → Nt} {I : List Nat} (h : Prev w g base tx v ch mv nt I) (hg : w'.heap[g]? = w.heap[g]?)
    (hr : ∀ b, v.ownBlock = some b → w'.heap[b]? = w.heap[b]?) : Prev w' g base tx v ch mv nt I := by
  obtain ⟨h1, h2, h3⟩ := h
  refine ⟨hg.trans h1, h2, ?_⟩
  rcases h3 with h3 | ⟨b, cap, cur, rfl, hb, hh, r⟩
  · exact .inl h3
  · exact .inr ⟨b, cap, cur, rfl, hb, (hr b rfl).trans hh, r⟩

theorem Prev.below {w w' : World} {g base : Nat} {tx v : Value} {ch : Int} {mv : Bool} {nt : Nat → Nt} {I : List Nat} (h : Prev w g base tx v ch mv nt I) (hb : Below w.heap.size w w') : Prev w' g base tx v ch mv nt I :=
  h.kept (hb.block g (Array.getElem?_eq_some_iff.1 h.blk).1) (fun b hv => hb.block b (h.own.lt b hv).2)

end Go.Proofs.Qxb6616402a
