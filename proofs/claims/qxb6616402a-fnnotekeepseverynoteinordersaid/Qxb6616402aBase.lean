/-
  SEAT b6616402a. WHAT THE THREE LAWS SHARE: a slice as it is seen ('CellsAt'), the clones (9, 20, 21, 29), zzMin (18), the zzBytes (14, 28).
-/
import Derived.Test.Qxb6616402aRows
import Derived.WalkKit
import Derived.Below
import Derived.WalkSpells
import Derived.WalkLawsBesides
import Derived.Deep.OwnRows
import Derived.BigQuiet
namespace Go.Proofs.Qxb6616402a
open Go.RowKit
set_option linter.unusedVariables false

/-- Some bool comes back (a name: the walk's simp does not look behind it). -/
def SomeBool (e : Ending) : Prop := ∃ b : Bool, e = .returned (.bool b)

/-- The slice '.slice a n _' of one-cell elements reads in w as V 0 .. V (n - 1). -/
def CellsAt (w : World) (a : Option Addr) (n : Nat) (V : Nat → Value) : Prop :=
  n = 0 ∨ ∃ b off, a = some ⟨b, off, none⟩ ∧ ∀ j, j < n → w.cell? ⟨b, off + j, none⟩ = some (V j)

/-- Every cell that was there reads as it did. -/
theorem below_keeps {w w' : World} (hb : Below w.heap.size w w') {p : Addr} {v : Value} (h : w.cell? p = some v) : w'.cell? p = some v :=
  (hb.cell (World.block_lt_of_cell? w p h)).trans h

theorem CellsAt.below {w w' : World} {a : Option Addr} {n : Nat} {V : Nat → Value} (h : CellsAt w a n V) (hb : Below w.heap.size w w') : CellsAt w' a n V := by
  rcases h with h | ⟨b, off, ha, hc⟩
  · exact .inl h
  · exact .inr ⟨b, off, ha, fun j hj => below_keeps hb (hc j hj)⟩

theorem CellsAt.take {w : World} {a : Option Addr} {n m : Nat} {V : Nat → Value} (h : CellsAt w a n V) (hm : m ≤ n) : CellsAt w a m V := by
  rcases h with h | ⟨b, off, ha, hc⟩
  · exact .inl (by omega)
  · exact .inr ⟨b, off, ha, fun j hj => hc j (by omega)⟩

/-- The first k cells of the row that the call fills. -/
def Filled (w : World) (g : Nat) (t : TypeId) (n k : Nat) (V : Nat → Value) : Prop := ∃ f, w.rowIs g t n f ∧ ∀ i, i < k → f i = V i

theorem filled_made (w : World) (z : Value) (t : TypeId) (n : Nat) (V : Nat → Value) : Filled (w.alloc (.cells (madeCells #[z] n) t)) w.heap.size t n 0 V :=
  ⟨_, World.rowIs_made w z n t, fun i hi => absurd hi (Nat.not_lt_zero _)⟩

theorem filled_step {w : World} {g : Nat} {t : TypeId} {n k : Nat} {V : Nat → Value} (h : Filled w g t n k V) : Filled (w.setCell ⟨g, k, none⟩ (V k)) g t n (k + 1) V := by
  obtain ⟨f, hr, hf⟩ := h
  refine ⟨_, hr.set k (V k), fun i hi => ?_⟩
  by_cases e : i = k
  · simp [e]
  · simp only [e, if_false]
    exact hf i (by omega)

theorem filled_cells {w : World} {g : Nat} {t : TypeId} {n : Nat} {V : Nat → Value} (h : Filled w g t n n V) : CellsAt w (some ⟨g, 0, none⟩) n V := by
  obtain ⟨f, hr, hf⟩ := h
  exact .inr ⟨g, 0, rfl, fun j hj => by rw [Nat.zero_add, hr.cell hj, hf j hj]⟩

/-- What a clone leaves: the same elements in new memory; nil for nil. -/
def ClonePost (w : World) (a : Option Addr) (n : Nat) (V : Nat → Value) (e : Ending) (w' : World) : Prop :=
  ∃ a', e = .returned (.slice a' n n) ∧ CellsAt w' a' n V ∧ (a' = none ↔ a = none) ∧ (a' = none → n = 0) ∧ Below w.heap.size w w'

theorem Try.info5 : (Try.prog.info? 5).map (fun i => (i.zero, i.size, i.bytes)) = some (some (.int .u8 0), 1, 1) := by kernel_rfl

theorem cloneBytes_any (a : Option Addr) (n c : Nat) (B : Nat → Int) (w : World) (hn : n ≤ 1048576) (h : CellsAt w a n (fun j => .int .u8 (B j))) (ha : a = none → n = 0 ∧ c = 0) :
    Calls Try.prog 9 #[.slice a n c] w fun e w' => ClonePost w a n (fun j => .int .u8 (B j)) e w' := by
  have hmk := fun kl kc => run_make_row' (P := Try.prog) 22 5 (.int .u8 0) 1 Try.underlying22 Try.info5 rfl kl kc n (by omega) (by omega)
  rcases a with _ | a
  · obtain ⟨rfl, rfl⟩ := ha rfl
    have hnil := fun (w : World) => Lib.run_eql_slice_nil (P := Try.prog) w 22 5 none 0 0 0 0 Try.underlying22
    go_enter Try.func9, Try.ntmps9
    go_wp2_with fail
    go_ret
    exact ⟨none, rfl, .inl rfl, Iff.rfl, fun _ => rfl, Below.refl _ _⟩
  · have hnil := fun (w : World) => Lib.run_eql_slice_nil (P := Try.prog) w 22 5 (some a) n c 0 0 Try.underlying22
    go_enter Try.func9, Try.ntmps9
    go_wp2_with fail
    clear hmk hnil
    go_loopw [4] (fun i wr => ∃ k : Nat, k ≤ n ∧ i = .int .i64 k ∧ Filled wr w.heap.size 5 n k (fun j => .int .u8 (B j)) ∧ Below w.heap.size w wr) (fun i _ => n - (intOf i).toNat)
    case atStart => exact ⟨0, Nat.zero_le _, rfl, filled_made w _ _ n _, (Below.refl _ _).alloc (Nat.le_refl _) _⟩
    case round =>
      obtain ⟨k, hk, rfl, hf, hb⟩ := hrel
      by_cases hlt : k < n
      · rcases h with rfl | ⟨b, off, hao, hc⟩
        · omega
        · obtain rfl := Option.some.inj hao
          have HF : Hid (Filled wr w.heap.size 5 n k (fun j => .int .u8 (B j))) := hf
          obtain ⟨f, hrow, -⟩ := hf
          have hlt0 : b < w.heap.size := World.block_lt_of_cell? w _ (hc k hlt)
          have c0 : wr.cell? ⟨b, off + k, none⟩ = some (.int .u8 (B k)) := below_keeps hb (hc k hlt)
          have o0 : wr.cell? ⟨w.heap.size, k, none⟩ = some (f k) := hrow.cell hlt
          have z0 : wr.frozen? ⟨w.heap.size, k, none⟩ = false := hrow.frozen _
          clear hc hrow
          go_wp2_with fail
          go_roundw
          case rel => exact ⟨k + 1, by omega, by go_num, filled_step HF.out, hb.setCell (Nat.le_refl _) _⟩
          case measure => simp [intOf]; omega
      · obtain rfl : k = n := by omega
        go_wp2_with fail
        go_ret
        exact ⟨_, rfl, filled_cells hf, by simp, (fun h => by cases h), hb⟩

theorem Try.info3 : (Try.prog.info? 3).map (fun i => (i.zero, i.size, i.bytes)) = some (some (.int .i64 0), 1, 8) := by kernel_rfl

theorem cloneInts_any (a : Option Addr) (n c : Nat) (B : Nat → Int) (w : World) (hn : n ≤ 1048576) (h : CellsAt w a n (fun j => .int .i64 (B j))) (ha : a = none → n = 0 ∧ c = 0) :
    Calls Try.prog 20 #[.slice a n c] w fun e w' => ClonePost w a n (fun j => .int .i64 (B j)) e w' := by
  have hmk := fun kl kc => run_make_row' (P := Try.prog) 33 3 (.int .i64 0) 8 Try.underlying33 Try.info3 rfl kl kc n (by omega) (by omega)
  rcases a with _ | a
  · obtain ⟨rfl, rfl⟩ := ha rfl
    have hnil := fun (w : World) => Lib.run_eql_slice_nil (P := Try.prog) w 33 3 none 0 0 0 0 Try.underlying33
    go_enter Try.func20, Try.ntmps20
    go_wp2_with fail
    go_ret
    exact ⟨none, rfl, .inl rfl, Iff.rfl, fun _ => rfl, Below.refl _ _⟩
  · have hnil := fun (w : World) => Lib.run_eql_slice_nil (P := Try.prog) w 33 3 (some a) n c 0 0 Try.underlying33
    go_enter Try.func20, Try.ntmps20
    go_wp2_with fail
    clear hmk hnil
    go_loopw [4] (fun i wr => ∃ k : Nat, k ≤ n ∧ i = .int .i64 k ∧ Filled wr w.heap.size 3 n k (fun j => .int .i64 (B j)) ∧ Below w.heap.size w wr) (fun i _ => n - (intOf i).toNat)
    case atStart => exact ⟨0, Nat.zero_le _, rfl, filled_made w _ _ n _, (Below.refl _ _).alloc (Nat.le_refl _) _⟩
    case round =>
      obtain ⟨k, hk, rfl, hf, hb⟩ := hrel
      by_cases hlt : k < n
      · rcases h with rfl | ⟨b, off, hao, hc⟩
        · omega
        · obtain rfl := Option.some.inj hao
          have HF : Hid (Filled wr w.heap.size 3 n k (fun j => .int .i64 (B j))) := hf
          obtain ⟨f, hrow, -⟩ := hf
          have hlt0 : b < w.heap.size := World.block_lt_of_cell? w _ (hc k hlt)
          have c0 : wr.cell? ⟨b, off + k, none⟩ = some (.int .i64 (B k)) := below_keeps hb (hc k hlt)
          have o0 : wr.cell? ⟨w.heap.size, k, none⟩ = some (f k) := hrow.cell hlt
          have z0 : wr.frozen? ⟨w.heap.size, k, none⟩ = false := hrow.frozen _
          clear hc hrow
          go_wp2_with fail
          go_roundw
          case rel => exact ⟨k + 1, by omega, by go_num, filled_step HF.out, hb.setCell (Nat.le_refl _) _⟩
          case measure => simp [intOf]; omega
      · obtain rfl : k = n := by omega
        go_wp2_with fail
        go_ret
        exact ⟨_, rfl, filled_cells hf, by simp, (fun h => by cases h), hb⟩

theorem Try.info9 : (Try.prog.info? 9).map (fun i => (i.zero, i.size, i.bytes)) = some (some (.string ByteArray.empty), 1, 16) := by kernel_rfl

theorem cloneStrings_any (a : Option Addr) (n c : Nat) (B : Nat → ByteArray) (w : World) (hn : n ≤ 1048576) (h : CellsAt w a n (fun j => .string (B j))) (ha : a = none → n = 0 ∧ c = 0) :
    Calls Try.prog 21 #[.slice a n c] w fun e w' => ClonePost w a n (fun j => .string (B j)) e w' := by
  have hmk := fun kl kc => run_make_row' (P := Try.prog) 34 9 (.string ByteArray.empty) 16 Try.underlying34 Try.info9 rfl kl kc n (by omega) (by omega)
  rcases a with _ | a
  · obtain ⟨rfl, rfl⟩ := ha rfl
    have hnil := fun (w : World) => Lib.run_eql_slice_nil (P := Try.prog) w 34 9 none 0 0 0 0 Try.underlying34
    go_enter Try.func21, Try.ntmps21
    go_wp2_with fail
    go_ret
    exact ⟨none, rfl, .inl rfl, Iff.rfl, fun _ => rfl, Below.refl _ _⟩
  · have hnil := fun (w : World) => Lib.run_eql_slice_nil (P := Try.prog) w 34 9 (some a) n c 0 0 Try.underlying34
    go_enter Try.func21, Try.ntmps21
    go_wp2_with fail
    clear hmk hnil
    go_loopw [4] (fun i wr => ∃ k : Nat, k ≤ n ∧ i = .int .i64 k ∧ Filled wr w.heap.size 9 n k (fun j => .string (B j)) ∧ Below w.heap.size w wr) (fun i _ => n - (intOf i).toNat)
    case atStart => exact ⟨0, Nat.zero_le _, rfl, filled_made w _ _ n _, (Below.refl _ _).alloc (Nat.le_refl _) _⟩
    case round =>
      obtain ⟨k, hk, rfl, hf, hb⟩ := hrel
      by_cases hlt : k < n
      · rcases h with rfl | ⟨b, off, hao, hc⟩
        · omega
        · obtain rfl := Option.some.inj hao
          have HF : Hid (Filled wr w.heap.size 9 n k (fun j => .string (B j))) := hf
          obtain ⟨f, hrow, -⟩ := hf
          have hlt0 : b < w.heap.size := World.block_lt_of_cell? w _ (hc k hlt)
          have c0 : wr.cell? ⟨b, off + k, none⟩ = some (.string (B k)) := below_keeps hb (hc k hlt)
          have o0 : wr.cell? ⟨w.heap.size, k, none⟩ = some (f k) := hrow.cell hlt
          have z0 : wr.frozen? ⟨w.heap.size, k, none⟩ = false := hrow.frozen _
          clear hc hrow
          go_wp2_with fail
          go_roundw
          case rel => exact ⟨k + 1, by omega, by go_num, filled_step HF.out, hb.setCell (Nat.le_refl _) _⟩
          case measure => simp [intOf]; omega
      · obtain rfl : k = n := by omega
        go_wp2_with fail
        go_ret
        exact ⟨_, rfl, filled_cells hf, by simp, (fun h => by cases h), hb⟩

theorem Try.info4 : (Try.prog.info? 4).map (fun i => (i.zero, i.size, i.bytes)) = some (some (.bool false), 1, 1) := by kernel_rfl

theorem cloneBools_any (a : Option Addr) (n c : Nat) (B : Nat → Bool) (w : World) (hn : n ≤ 1048576) (h : CellsAt w a n (fun j => .bool (B j))) (ha : a = none → n = 0 ∧ c = 0) :
    Calls Try.prog 29 #[.slice a n c] w fun e w' => ClonePost w a n (fun j => .bool (B j)) e w' := by
  have hmk := fun kl kc => run_make_row' (P := Try.prog) 48 4 (.bool false) 1 Try.underlying48 Try.info4 rfl kl kc n (by omega) (by omega)
  rcases a with _ | a
  · obtain ⟨rfl, rfl⟩ := ha rfl
    have hnil := fun (w : World) => Lib.run_eql_slice_nil (P := Try.prog) w 48 4 none 0 0 0 0 Try.underlying48
    go_enter Try.func29, Try.ntmps29
    go_wp2_with fail
    go_ret
    exact ⟨none, rfl, .inl rfl, Iff.rfl, fun _ => rfl, Below.refl _ _⟩
  · have hnil := fun (w : World) => Lib.run_eql_slice_nil (P := Try.prog) w 48 4 (some a) n c 0 0 Try.underlying48
    go_enter Try.func29, Try.ntmps29
    go_wp2_with fail
    clear hmk hnil
    go_loopw [4] (fun i wr => ∃ k : Nat, k ≤ n ∧ i = .int .i64 k ∧ Filled wr w.heap.size 4 n k (fun j => .bool (B j)) ∧ Below w.heap.size w wr) (fun i _ => n - (intOf i).toNat)
    case atStart => exact ⟨0, Nat.zero_le _, rfl, filled_made w _ _ n _, (Below.refl _ _).alloc (Nat.le_refl _) _⟩
    case round =>
      obtain ⟨k, hk, rfl, hf, hb⟩ := hrel
      by_cases hlt : k < n
      · rcases h with rfl | ⟨b, off, hao, hc⟩
        · omega
        · obtain rfl := Option.some.inj hao
          have HF : Hid (Filled wr w.heap.size 4 n k (fun j => .bool (B j))) := hf
          obtain ⟨f, hrow, -⟩ := hf
          have hlt0 : b < w.heap.size := World.block_lt_of_cell? w _ (hc k hlt)
          have c0 : wr.cell? ⟨b, off + k, none⟩ = some (.bool (B k)) := below_keeps hb (hc k hlt)
          have o0 : wr.cell? ⟨w.heap.size, k, none⟩ = some (f k) := hrow.cell hlt
          have z0 : wr.frozen? ⟨w.heap.size, k, none⟩ = false := hrow.frozen _
          clear hc hrow
          go_wp2_with fail
          go_roundw
          case rel => exact ⟨k + 1, by omega, by go_num, filled_step HF.out, hb.setCell (Nat.le_refl _) _⟩
          case measure => simp [intOf]; omega
      · obtain rfl : k = n := by omega
        go_wp2_with fail
        go_ret
        exact ⟨_, rfl, filled_cells hf, by simp, (fun h => by cases h), hb⟩

theorem min_any (x y : Int) (w : World) : Calls Try.prog 18 #[.int .i64 x, .int .i64 y] w fun e w' => e = .returned (.int .i64 (if x < y then x else y)) ∧ w' = w := by
  by_cases h : x < y
  · rw [if_pos h]
    go_enter Try.func18, Try.ntmps18
    go_wp2_with fail
    go_ret
    exact ⟨rfl, rfl⟩
  · rw [if_neg h]
    go_enter Try.func18, Try.ntmps18
    go_wp2_with fail
    go_ret
    exact ⟨rfl, rfl⟩

theorem bytes14_any (a : Option Addr) (n c : Nat) (x y : Int) (w : World) (hn : n ≤ maxLen) :
    Calls Try.prog 14 #[.slice a n c, .int .i64 x, .int .i64 y] w fun e w' => SomeBool e ∧ w' = w := by
  unfold maxLen at hn
  by_cases h : n ≤ 1048576
  · go_enter Try.func14, Try.ntmps14
    go_wp2_with fail
    go_ret
    exact ⟨⟨_, rfl⟩, rfl⟩
  · go_enter Try.func14, Try.ntmps14
    go_wp2_with fail
    go_ret
    exact ⟨⟨_, rfl⟩, rfl⟩

end Go.Proofs.Qxb6616402a
