import Derived.Test.Qxb6616402aNote
import Derived.Lib.Builder
namespace Go.Proofs.Qxb6616402a
open Go.RowKit
set_option linter.unusedVariables false

theorem bytes19_any (a0 : Option Addr) (n0 c0 : Nat) (x : Int) (y : Bool) (a1 : Option Addr) (n1 c1 : Nat) (a2 : Option Addr) (n2 c2 : Nat) (a3 : Option Addr) (n3 c3 : Nat) (X : Nat → ByteArray) (w : World)
    (h0 : n0 ≤ maxLen) (h1 : n1 ≤ maxLen) (h2 : n2 ≤ maxLen) (h3 : n3 ≤ maxLen) (hc : CellsAt w a3 n3 (fun j => .string (X j))) (hX : ∀ j, j < n3 → (X j).size ≤ maxLen) :
    Calls Try.prog 19 #[.slice a0 n0 c0, .int .i64 x, .bool y, .slice a1 n1 c1, .slice a2 n2 c2, .slice a3 n3 c3] w fun e w' => SomeBool e ∧ w' = w := by
  unfold maxLen at h0 h1 h2 h3
  by_cases k0 : n0 ≤ 1048576
  · by_cases k1 : n0 + n1 ≤ 1048576
    · by_cases k2 : n0 + n1 + n2 ≤ 1048576
      · by_cases k3 : n0 + n1 + n2 + n3 ≤ 1048576
        · go_enter Try.func19, Try.ntmps19
          go_wp2_with fail
          go_loop [13, 14] (fun t i => ∃ (k : Nat) (s : Int), k ≤ n3 ∧ i = .int .i64 k ∧ t = .int .i64 s) (fun _ i => n3 - (intOf i).toNat)
          case atStart => exact ⟨0, _, Nat.zero_le _, rfl, rfl⟩
          case round =>
            obtain ⟨k, s, hk, rfl, rfl⟩ := hrel
            by_cases hlt : k < n3
            · rcases hc with rfl | ⟨b, off, rfl, hc⟩
              · omega
              · have hc1 : w.cell? ⟨b, off + k, none⟩ = some (.string (X k)) := hc k hlt
                have hXk := hX k hlt
                unfold maxLen at hXk
                clear hc hX
                go_wp2_with fail
                · go_ret
                  exact ⟨⟨_, rfl⟩, rfl⟩
                · go_ret
                  exact ⟨⟨_, rfl⟩, rfl⟩
                · go_round
                  case rel => exact ⟨k + 1, _, by omega, by go_num, rfl⟩
                  case measure => simp [intOf]; omega
            · clear hX
              go_wp2_with fail
              go_ret
              exact ⟨⟨_, rfl⟩, rfl⟩
        · go_enter Try.func19, Try.ntmps19
          go_wp2_with fail
          all_goals go_ret
          all_goals exact ⟨⟨_, rfl⟩, rfl⟩
      · go_enter Try.func19, Try.ntmps19
        go_wp2_with fail
        all_goals go_ret
        all_goals exact ⟨⟨_, rfl⟩, rfl⟩
    · go_enter Try.func19, Try.ntmps19
      go_wp2_with fail
      all_goals go_ret
      all_goals exact ⟨⟨_, rfl⟩, rfl⟩
  · go_enter Try.func19, Try.ntmps19
    go_wp2_with fail
    all_goals go_ret
    all_goals exact ⟨⟨_, rfl⟩, rfl⟩

theorem sameBytes_any (a b : Option Addr) (n c d : Nat) (B : Nat → Int) (w : World) (hn : n ≤ 1048576) (ha : CellsAt w a n (fun j => .int .u8 (B j))) (hb : CellsAt w b n (fun j => .int .u8 (B j))) :
    Calls Try.prog 27 #[.slice a n c, .slice b n d] w fun e w' => e = .returned (.bool true) ∧ ∃ m, w' = w.drewN m := by
  have hnn : ((n : Int) != (n : Int)) = false := by simp
  go_enter Try.func27, Try.ntmps27
  go_wp2_with fail
  go_loopw [5] (fun i wr => ∃ k m : Nat, k ≤ n ∧ i = .int .i64 k ∧ wr = w.drewN m) (fun i _ => n - (intOf i).toNat)
  case atStart => exact ⟨0, 0, Nat.zero_le _, rfl, rfl⟩
  case round =>
    obtain ⟨k, m, hk, rfl, rfl⟩ := hrel
    by_cases hlt : k < n
    · rcases ha with rfl | ⟨b0, o0, rfl, s0⟩
      · omega
      rcases hb with rfl | ⟨b1, o1, rfl, s1⟩
      · omega
      have x0 : w.cell? ⟨b0, o0 + k, none⟩ = some (.int .u8 (B k)) := s0 k hlt
      have x1 : w.cell? ⟨b1, o1 + k, none⟩ = some (.int .u8 (B k)) := s1 k hlt
      have hk0 : (0 : Int) ≤ (k : Int) := by omega
      have hk1 : (k : Int) < (n : Int) := by omega
      clear s0 s1
      go_wp2_with fail
      go_quiet (fail)
      go_wp2_with fail
      go_roundw
      case rel => exact ⟨k + 1, m + nq, by omega, by go_num, by simp⟩
      case measure => simp [intOf]; omega
    · go_wp2_with fail
      go_ret
      exact ⟨rfl, m, rfl⟩

end Go.Proofs.Qxb6616402a
