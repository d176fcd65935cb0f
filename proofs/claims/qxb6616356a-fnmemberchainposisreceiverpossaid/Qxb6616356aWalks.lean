/-
  SEAT b6616356a. THE WALKS: zzBytes (6), the two makers (7, 8), (*Ident).Pos (34), (*Member).Pos (9), the law (3).
-/
import Derived.Test.Qxb6616356aRows
import Derived.WalkKit
import Derived.Below
import Derived.WalkSpells
import Derived.WalkLawsBesides
namespace Go.Proofs.Qxb6616356a
open Go.RowKit
set_option linter.unusedVariables false

/-- Some bool comes back (a name: the walk's simp does not look behind it). -/
def SomeBool (e : Ending) : Prop := ∃ b : Bool, e = .returned (.bool b)

theorem bytes_any (x y z : Int) (a : Option Addr) (n c : Nat) (w : World) (hn : n ≤ maxLen) :
    Calls Try.prog 6 #[.int .i64 x, .int .i64 y, .int .i64 z, .slice a n c] w fun e w' => SomeBool e ∧ w' = w := by
  unfold maxLen at hn
  by_cases h : n ≤ 1048576
  · go_enter Try.func6, Try.ntmps6
    go_wp2_with fail
    go_ret
    exact ⟨⟨_, rfl⟩, rfl⟩
  · go_enter Try.func6, Try.ntmps6
    go_wp2_with fail
    go_ret
    exact ⟨⟨_, rfl⟩, rfl⟩

/-- A chain of k + 1 accesses whose innermost receiver is an identifier at x: block b is its outermost access. -/
def Chain (w : World) (x : Int) : Nat → Nat → Prop
  | 0, b => ∃ i, w.cell? ⟨b, 0, none⟩ = some (.iface 35 (.pointer (some ⟨i, 0, none⟩))) ∧ w.cell? ⟨i, 0, none⟩ = some (.int .i64 x)
  | k + 1, b => ∃ i, w.cell? ⟨b, 0, none⟩ = some (.iface 24 (.pointer (some ⟨i, 0, none⟩))) ∧ Chain w x k i

theorem identPos_any (i : Nat) (x : Int) (w : World) (h : w.cell? ⟨i, 0, none⟩ = some (.int .i64 x)) :
    Calls Try.prog 34 #[.pointer (some ⟨i, 0, none⟩)] w fun e w' => e = .returned (.int .i64 x) ∧ w' = w := by
  go_enter Try.func34, Try.ntmps34
  go_wp2_with fail
  go_ret
  exact ⟨rfl, rfl⟩

theorem method35 (a : Addr) (w : World) : (method 174 35 (.pointer (some a)) "Pos").run Try.prog w = .ok (34, .pointer (some a)) w := by kernel_rfl
theorem method24 (a : Addr) (w : World) : (method 174 24 (.pointer (some a)) "Pos").run Try.prog w = .ok (9, .pointer (some a)) w := by kernel_rfl

theorem memberPos_any (x : Int) (k : Nat) : ∀ (b : Nat) (w : World), Chain w x k b →
    Calls Try.prog 9 #[.pointer (some ⟨b, 0, none⟩)] w fun e w' => e = .returned (.int .i64 x) ∧ w' = w := by
  induction k with
  | zero =>
    intro b w h
    obtain ⟨i, hb, hi⟩ := h
    have hm := method35
    go_enter Try.func9, Try.ntmps9
    go_wp2_with (go_at_call 34; refine (identPos_any i x _ hi).mono ?_; rintro e w1 ⟨rfl, hw⟩; obtain rfl := hw.symm)
    go_ret
    exact ⟨rfl, rfl⟩
  | succ k ih =>
    intro b w h
    obtain ⟨i, hb, hi⟩ := h
    have HI : Hid (∀ (b : Nat) (w : World), Chain w x k b → Calls Try.prog 9 #[.pointer (some ⟨b, 0, none⟩)] w fun e w' => e = .returned (.int .i64 x) ∧ w' = w) := ih
    clear ih
    have hm := method24
    go_enter Try.func9, Try.ntmps9
    go_wp2_with (go_at_call 9; refine (HI.out i _ hi).mono ?_; rintro e w1 ⟨rfl, hw⟩; obtain rfl := hw.symm)
    go_ret
    exact ⟨rfl, rfl⟩

/-- Every cell that was there reads as it did. -/
theorem below_keeps {w w' : World} (hb : Below w.heap.size w w') {p : Addr} {v : Value} (h : w.cell? p = some v) : w'.cell? p = some v :=
  (hb.cell (World.block_lt_of_cell? w p h)).trans h

theorem Chain.below {w w' : World} {x : Int} (hb : Below w.heap.size w w') : ∀ {k b : Nat}, Chain w x k b → Chain w' x k b
  | 0, b, ⟨i, h1, h2⟩ => ⟨i, below_keeps hb h1, below_keeps hb h2⟩
  | k + 1, b, ⟨i, h1, h2⟩ => ⟨i, below_keeps hb h1, Chain.below hb h2⟩

def MadePost (w : World) (x : Int) (k : Nat) (e : Ending) (w' : World) : Prop :=
  ∃ b, e = .returned (.pointer (some ⟨b, 0, none⟩)) ∧ Chain w' x k b ∧ Below w.heap.size w w'

theorem newIdent_any (x y z : Int) (w : World) :
    Calls Try.prog 7 #[.int .i64 x, .int .i64 y, .int .i64 z] w fun e w' => MadePost w x 0 e w' := by
  go_enter Try.func7, Try.ntmps7
  go_wp2_with fail
  go_ret
  refine ⟨w.heap.size + 1 + 1, rfl, ⟨w.heap.size, ?_, ?_⟩, (((Below.refl _ _).alloc (Nat.le_refl _) _).alloc (by simp) _).alloc (by simp; omega) _⟩
  · exact (World.cell?_alloc_at _ _ _ _ (by simp)).trans (by simp)
  · exact (World.cell?_alloc_past _ _ _ (by simp; omega)).trans ((World.cell?_alloc_past _ _ _ (by simp)).trans (by simp))

theorem newMember_any (x : Int) (k b : Nat) (y z : Int) (w : World) (h : Chain w x k b) :
    Calls Try.prog 8 #[.pointer (some ⟨b, 0, none⟩), .int .i64 y, .int .i64 z] w fun e w' => MadePost w x (k + 1) e w' := by
  go_enter Try.func8, Try.ntmps8
  go_wp2_with fail
  go_ret
  have hb : Below w.heap.size w ((w.alloc (.cells #[.int .i64 z, .string ⟨#[]⟩] 37)).alloc (.cells #[.iface 24 (.pointer (some ⟨b, 0, none⟩)), .int .i64 y, .pointer (some ⟨w.heap.size, 0, none⟩)] 41)) :=
    ((Below.refl _ _).alloc (Nat.le_refl _) _).alloc (by simp) _
  refine ⟨w.heap.size + 1, rfl, ⟨b, ?_, h.below hb⟩, hb⟩
  exact (World.cell?_alloc_at _ _ _ _ (by simp)).trans (by simp)

end Go.Proofs.Qxb6616356a
