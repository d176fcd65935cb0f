/-
  SEAT b6616208a. WHAT BOTH LAWS SHARE: an element as it is seen ('El'), a slice of elements ('RowAt'), and the contracts of the small callees: zzAdd (14), zzElemsBytes (10), the two zzBytes (9, 13).
-/
import Derived.Test.Qxb6616208aRows
import Derived.WalkKit
import Derived.Below
namespace Go.Proofs.Qxb6616208a
open Go.RowKit
set_option linter.unusedVariables false

/-- One element as it is seen: its identifier, its data's slice value, its bytes by their index. -/
structure El where
  id : Int
  a : Option Addr
  l : Nat
  c : Nat
  bs : Nat → Int

def El.ok (w : World) (e : El) : Prop :=
  0 ≤ e.id ∧ e.id ≤ 255 ∧ e.l ≤ maxLen ∧ (e.l = 0 ∨ ∃ b off, e.a = some ⟨b, off, none⟩ ∧ ∀ j, j < e.l → w.cell? ⟨b, off + j, none⟩ = some (.int .u8 (e.bs j))) ∧
  ∀ j, j < e.l → 0 ≤ e.bs j ∧ e.bs j ≤ 255

/-- The slice value '.slice a n c' of elements reads in w as E 0, .., E (n - 1). -/
def RowAt (w : World) (a : Option Addr) (n : Nat) (E : Nat → El) : Prop :=
  (n = 0 ∨ ∃ b off, a = some ⟨b, off, none⟩ ∧ ∀ i, i < n → w.cell? ⟨b, off + i * 2, none⟩ = some (.int .u8 (E i).id) ∧ w.cell? ⟨b, off + i * 2 + 1, none⟩ = some (.slice (E i).a (E i).l (E i).c)) ∧
  ∀ i, i < n → (E i).ok w

/-- Some bool comes back (a name: the walk's simp does not look behind it). -/
def SomeBool (e : Ending) : Prop := ∃ b : Bool, e = .returned (.bool b)

/-- zzAdd: some number; nothing turns. -/
theorem add_any (x y : Int) (w : World) : Calls Try.prog 14 #[.int .i64 x, .int .i64 y] w fun e w' => (∃ s : Int, e = .returned (.int .i64 s)) ∧ w' = w := by
  by_cases h1 : 1048576 < x
  · go_enter Try.func14, Try.ntmps14
    go_wp2
    go_ret
    exact ⟨⟨_, rfl⟩, rfl⟩
  · by_cases h2 : 1048576 < y
    · go_enter Try.func14, Try.ntmps14
      go_wp2
      go_ret
      exact ⟨⟨_, rfl⟩, rfl⟩
    · go_enter Try.func14, Try.ntmps14
      go_wp2
      go_ret
      exact ⟨⟨_, rfl⟩, rfl⟩

/-- zzElemsBytes: some number; nothing turns. -/
theorem elemsBytes_any (a : Option Addr) (n c : Nat) (E : Nat → El) (s0 : Int) (w : World) (hn : n ≤ maxLen) (hr : RowAt w a n E) :
    Calls Try.prog 10 #[.slice a n c, .int .i64 s0] w fun e w' => (∃ s : Int, e = .returned (.int .i64 s)) ∧ w' = w := by
  unfold maxLen at hn
  obtain ⟨hr, -⟩ := hr
  go_enter Try.func10, Try.ntmps10
  go_wp2_with fail
  go_loop [1, 5] (fun t i => ∃ (k : Nat) (s : Int), k ≤ n ∧ i = .int .i64 k ∧ t = .int .i64 s) (fun _ i => n - (intOf i).toNat)
  case atStart => exact ⟨0, s0, Nat.zero_le _, rfl, rfl⟩
  case round =>
    obtain ⟨k, s, hk, rfl, rfl⟩ := hrel
    by_cases hlt : k < n
    · rcases hr with rfl | ⟨b, off, rfl, hc⟩
      · omega
      · have hc1 := (hc k hlt).2
        clear hc
        go_wp2_with (go_at_call 14; refine (add_any _ _ _).mono ?_; rintro e w' ⟨⟨s1, rfl⟩, rfl⟩)
        · go_ret
          exact ⟨⟨_, rfl⟩, rfl⟩
        · go_round
          case rel => exact ⟨k + 1, _, by omega, by go_num, rfl⟩
          case measure => simp [intOf]; omega
    · go_wp2_with fail
      go_ret
      exact ⟨⟨_, rfl⟩, rfl⟩

/-- zzBytes_FnPartOfFirst..: some bool; nothing turns. -/
theorem bytes13_any (i : Int) (a0 : Option Addr) (n0 c0 : Nat) (a : Option Addr) (n c : Nat) (E : Nat → El) (w : World) (hn0 : n0 ≤ maxLen) (hn : n ≤ maxLen) (hr : RowAt w a n E) :
    Calls Try.prog 13 #[.int .u8 i, .slice a0 n0 c0, .slice a n c] w fun e w' => SomeBool e ∧ w' = w := by
  unfold maxLen at hn hn0
  obtain ⟨hr, -⟩ := hr
  by_cases h1 : n0 ≤ 1048576
  · by_cases h2 : n ≤ 1048576
    · by_cases h3 : n0 + n ≤ 1048576
      · go_enter Try.func13, Try.ntmps13
        go_wp2_with fail
        go_loop [7, 8] (fun t i => ∃ (k : Nat) (s : Int), k ≤ n ∧ i = .int .i64 k ∧ t = .int .i64 s) (fun _ i => n - (intOf i).toNat)
        case atStart => exact ⟨0, _, Nat.zero_le _, rfl, rfl⟩
        case round =>
          obtain ⟨k, s, hk, rfl, rfl⟩ := hrel
          by_cases hlt : k < n
          · rcases hr with rfl | ⟨b, off, rfl, hc⟩
            · omega
            · have hc1 := (hc k hlt).2
              clear hc
              go_wp2_with fail
              · go_ret
                exact ⟨⟨_, rfl⟩, rfl⟩
              · go_ret
                exact ⟨⟨_, rfl⟩, rfl⟩
              · go_round
                case rel => exact ⟨k + 1, _, by omega, by go_num, rfl⟩
                case measure => simp [intOf]; omega
          · go_wp2_with fail
            go_ret
            exact ⟨⟨_, rfl⟩, rfl⟩
      · go_enter Try.func13, Try.ntmps13
        go_wp2_with fail
        go_ret
        exact ⟨⟨_, rfl⟩, rfl⟩
    · go_enter Try.func13, Try.ntmps13
      go_wp2_with fail
      go_ret
      exact ⟨⟨_, rfl⟩, rfl⟩
  · go_enter Try.func13, Try.ntmps13
    go_wp2_with fail
    go_ret
    exact ⟨⟨_, rfl⟩, rfl⟩

/-- zzBytes_FnPartOfValid..: some bool; nothing turns. -/
theorem bytes9_any (i : Int) (q : Bool) (x y z u : Int) (a : Option Addr) (n c : Nat) (E : Nat → El) (w : World) (hn : n ≤ maxLen) (hr : RowAt w a n E) :
    Calls Try.prog 9 #[.slice a n c, .int .i64 i, .bool q, .int .u8 x, .int .u8 y, .int .u8 z, .int .u8 u] w fun e w' => SomeBool e ∧ w' = w := by
  unfold maxLen at hn
  obtain ⟨hr, -⟩ := hr
  by_cases h2 : n ≤ 1048576
  · go_enter Try.func9, Try.ntmps9
    go_wp2_with fail
    go_loop [15, 16] (fun t i => ∃ (k : Nat) (s : Int), k ≤ n ∧ i = .int .i64 k ∧ t = .int .i64 s) (fun _ i => n - (intOf i).toNat)
    case atStart => exact ⟨0, _, Nat.zero_le _, rfl, rfl⟩
    case round =>
      obtain ⟨k, s, hk, rfl, rfl⟩ := hrel
      by_cases hlt : k < n
      · rcases hr with rfl | ⟨b, off, rfl, hc⟩
        · omega
        · have hc1 := (hc k hlt).2
          clear hc
          go_wp2_with fail
          · go_ret
            exact ⟨⟨_, rfl⟩, rfl⟩
          · go_ret
            exact ⟨⟨_, rfl⟩, rfl⟩
          · go_round
            case rel => exact ⟨k + 1, _, by omega, by go_num, rfl⟩
            case measure => simp [intOf]; omega
      · go_wp2_with fail
        go_ret
        exact ⟨⟨_, rfl⟩, rfl⟩
  · go_enter Try.func9, Try.ntmps9
    go_wp2_with fail
    go_ret
    exact ⟨⟨_, rfl⟩, rfl⟩

end Go.Proofs.Qxb6616208a
