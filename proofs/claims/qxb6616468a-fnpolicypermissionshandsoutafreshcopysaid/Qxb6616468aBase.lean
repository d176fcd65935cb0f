/-
  SEAT b6616468a. A slice of strings as it is seen ('CellsAt'), and the contracts of zzBytes (4), zzStringsBytes (5), zzHasDot (6).
-/
import Derived.Test.Qxb6616468aRows
import Derived.WalkKit
import Derived.Below
import Derived.WalkSpells
import Derived.WalkLawsBesides
import Derived.Deep.OwnRows
import Derived.BigQuiet
import Derived.Laws.CopyOwn
namespace Go.Proofs.Qxb6616468a
open Go.RowKit
set_option linter.unusedVariables false

/-- Some bool comes back (a name: the walk's simp does not look behind it). -/
def SomeBool (e : Ending) : Prop := ∃ b : Bool, e = .returned (.bool b)

/-- The slice '.slice a n _' of one-cell elements reads in w as V 0 .. V (n - 1). -/
def CellsAt (w : World) (a : Option Addr) (n : Nat) (V : Nat → Value) : Prop :=
  n = 0 ∨ ∃ b off, a = some ⟨b, off, none⟩ ∧ ∀ j, j < n → w.cell? ⟨b, off + j, none⟩ = some (V j)

/-- Every cell that was there reads as it did. -/
theorem below_keeps {w w' : World} (hb : Below w.heap.size w w') {p : Addr} {v : Value} (h : w.cell? p = some v) : w'.cell? p = some v :=
  (hb.cell (World.block_lt_of_cell? w p h)).trans h

theorem CellsAt.below {w w' : World} {a : Option Addr} {n : Nat} {V : Nat → Value} (h : CellsAt w a n V) (hb : Below w.heap.size w w') : CellsAt w' a n V := by
  rcases h with h | ⟨b, off, ha, hc⟩
  · exact .inl h
  · exact .inr ⟨b, off, ha, fun j hj => below_keeps hb (hc j hj)⟩

theorem CellsAt.take {w : World} {a : Option Addr} {n m : Nat} {V : Nat → Value} (h : CellsAt w a n V) (hm : m ≤ n) : CellsAt w a m V := by
  rcases h with h | ⟨b, off, ha, hc⟩
  · exact .inl (by omega)
  · exact .inr ⟨b, off, ha, fun j hj => hc j (by omega)⟩

/-- The first k cells of the row that the call fills. -/
def Filled (w : World) (g : Nat) (t : TypeId) (n k : Nat) (V : Nat → Value) : Prop := ∃ f, w.rowIs g t n f ∧ ∀ i, i < k → f i = V i

theorem filled_made (w : World) (z : Value) (t : TypeId) (n : Nat) (V : Nat → Value) : Filled (w.alloc (.cells (madeCells #[z] n) t)) w.heap.size t n 0 V :=
  ⟨_, World.rowIs_made w z n t, fun i hi => absurd hi (Nat.not_lt_zero _)⟩

theorem filled_step {w : World} {g : Nat} {t : TypeId} {n k : Nat} {V : Nat → Value} (h : Filled w g t n k V) : Filled (w.setCell ⟨g, k, none⟩ (V k)) g t n (k + 1) V := by
  obtain ⟨f, hr, hf⟩ := h
  refine ⟨_, hr.set k (V k), fun i hi => ?_⟩
  by_cases e : i = k
  · simp [e]
  · simp only [e, if_false]
    exact hf i (by omega)

theorem filled_cells {w : World} {g : Nat} {t : TypeId} {n : Nat} {V : Nat → Value} (h : Filled w g t n n V) : CellsAt w (some ⟨g, 0, none⟩) n V := by
  obtain ⟨f, hr, hf⟩ := h
  exact .inr ⟨g, 0, rfl, fun j hj => by rw [Nat.zero_add, hr.cell hj, hf j hj]⟩

theorem Try.info9 : (Try.prog.info? 9).map (fun i => (i.zero, i.size, i.bytes)) = some (some (.string ByteArray.empty), 1, 16) := by kernel_rfl
theorem Try.size9 : (Try.prog.info? 9).map (·.size) = some 1 := by kernel_rfl

theorem bytes4_any (a : Option Addr) (n c : Nat) (X : Nat → ByteArray) (w : World) (hn : n ≤ maxLen) (hc : CellsAt w a n (fun j => .string (X j))) (hX : ∀ j, j < n → (X j).size ≤ maxLen) :
    Calls Try.prog 4 #[.slice a n c] w fun e w' => SomeBool e ∧ w' = w := by
  unfold maxLen at hn
  by_cases k0 : n ≤ 1048576
  · go_enter Try.func4, Try.ntmps4
    go_wp2_with fail
    go_loop [3, 4] (fun t i => ∃ (k : Nat) (s : Int), k ≤ n ∧ i = .int .i64 k ∧ t = .int .i64 s) (fun _ i => n - (intOf i).toNat)
    case atStart => exact ⟨0, _, Nat.zero_le _, rfl, rfl⟩
    case round =>
      obtain ⟨k, s, hk, rfl, rfl⟩ := hrel
      by_cases hlt : k < n
      · rcases hc with rfl | ⟨b, off, rfl, hc⟩
        · omega
        · have hc1 : w.cell? ⟨b, off + k, none⟩ = some (.string (X k)) := hc k hlt
          have hXk := hX k hlt
          unfold maxLen at hXk
          clear hc hX
          go_wp2_with fail
          · go_ret
            exact ⟨⟨_, rfl⟩, rfl⟩
          · go_ret
            exact ⟨⟨_, rfl⟩, rfl⟩
          · go_round
            case rel => exact ⟨k + 1, _, by omega, by go_num, rfl⟩
            case measure => simp [intOf]; omega
      · clear hX
        go_wp2_with fail
        go_ret
        exact ⟨⟨_, rfl⟩, rfl⟩
  · go_enter Try.func4, Try.ntmps4
    go_wp2_with fail
    go_ret
    exact ⟨⟨_, rfl⟩, rfl⟩

/-- zzStringsBytes from 0: some number; where it is within the bound so is each string. -/
def StrPost (n : Nat) (X : Nat → ByteArray) (w : World) (e : Ending) (w' : World) : Prop :=
  (∃ s : Int, e = .returned (.int .i64 s) ∧ (s ≤ 1048576 → ∀ j, j < n → (X j).size ≤ 1048576)) ∧ w' = w

theorem small_step {X : Nat → ByteArray} {k : Nat} (h : ∀ j, j < k → (X j).size ≤ 1048576) (hk : ((X k).size : Int) ≤ 1048576) : ∀ j, j < k + 1 → (X j).size ≤ 1048576 := by
  intro j hj
  by_cases e : j = k
  · rw [e]; omega
  · exact h j (by omega)

theorem stringsBytes_any (a : Option Addr) (n c : Nat) (X : Nat → ByteArray) (w : World) (hn : n ≤ maxLen) (hc : CellsAt w a n (fun j => .string (X j))) (hX : ∀ j, j < n → (X j).size ≤ maxLen) :
    Calls Try.prog 5 #[.slice a n c, .int .i64 0] w fun e w' => StrPost n X w e w' := by
  unfold maxLen at hn
  go_enter Try.func5, Try.ntmps5
  go_wp2_with fail
  go_loop [1, 5] (fun t i => ∃ (k : Nat) (s : Int), k ≤ n ∧ i = .int .i64 k ∧ t = .int .i64 s ∧ ∀ j, j < k → (X j).size ≤ 1048576) (fun _ i => n - (intOf i).toNat)
  case atStart => exact ⟨0, _, Nat.zero_le _, rfl, rfl, fun j hj => absurd hj (Nat.not_lt_zero _)⟩
  case round =>
    obtain ⟨k, s, hk, rfl, rfl, hsm⟩ := hrel
    have HS : Hid (∀ j, j < k → (X j).size ≤ 1048576) := hsm
    clear hsm
    by_cases hlt : k < n
    · rcases hc with rfl | ⟨b, off, rfl, hc⟩
      · omega
      · have hc1 : w.cell? ⟨b, off + k, none⟩ = some (.string (X k)) := hc k hlt
        have hXk := hX k hlt
        unfold maxLen at hXk
        clear hc hX
        by_cases hbig : ((X k).size : Int) ≤ 1048576
        · go_wp2_with fail
          · go_ret
            exact ⟨⟨_, rfl, fun h => by exfalso; omega⟩, rfl⟩
          · go_round
            case rel => exact ⟨k + 1, _, by omega, by go_num, rfl, small_step HS.out hbig⟩
            case measure => simp [intOf]; omega
        · go_wp2_with fail
          go_ret
          exact ⟨⟨_, rfl, fun h => by exfalso; omega⟩, rfl⟩
    · clear hX
      go_wp2_with fail
      go_ret
      exact ⟨⟨_, rfl, fun _ j hj => HS.out j (by omega)⟩, rfl⟩

theorem hasDot_any (s : ByteArray) (w : World) (hs : s.size ≤ 1048576) : Calls Try.prog 6 #[.string s] w fun e w' => SomeBool e ∧ w' = w := by
  go_enter Try.func6, Try.ntmps6
  go_wp2_with fail
  go_loop [3] (fun i => ∃ k : Nat, k ≤ s.size ∧ i = .int .i64 k) (fun i => s.size - (intOf i).toNat)
  case atStart => exact ⟨0, Nat.zero_le _, rfl⟩
  case round =>
    obtain ⟨k, hk, rfl⟩ := hrel
    by_cases hlt : k < s.size
    · go_wp2_with fail
      · go_ret
        exact ⟨⟨_, rfl⟩, rfl⟩
      · go_round
        case rel => exact ⟨k + 1, by omega, by go_num⟩
        case measure => simp [intOf]; omega
    · go_wp2_with fail
      go_ret
      exact ⟨⟨_, rfl⟩, rfl⟩

end Go.Proofs.Qxb6616468a
