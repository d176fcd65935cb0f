import Derived.Test.Qxb6616402aNull2
namespace Go.Proofs.Qxb6616402a
open Go.RowKit
set_option linter.unusedVariables false

def NAtPost (B : Nat → Int) (n i : Nat) (w : World) (e : Ending) (w' : World) : Prop := ((NullAt B n i ∧ e = .returned (.bool true)) ∨ (¬ NullAt B n i ∧ e = .returned (.bool false))) ∧ w' = w

theorem nullAt_any (a : Option Addr) (n c i : Nat) (B : Nat → Int) (w : World) (hn : n ≤ 1048576) (hc : CellsAt w a n (fun j => .int .u8 (B j))) :
    Calls Try.prog 16 #[.slice a n c, .int .i64 i] w fun e w' => NAtPost B n i w e w' := by
  by_cases hi : i + 4 ≤ n
  · rcases hc with hc | ⟨b, off, rfl, hc⟩
    · omega
    have c0 : w.cell? ⟨b, off + i, none⟩ = some (.int .u8 (B i)) := hc i (by omega)
    have c1 : w.cell? ⟨b, off + (i + 1), none⟩ = some (.int .u8 (B (i + 1))) := hc (i + 1) (by omega)
    have c2 : w.cell? ⟨b, off + (i + 2), none⟩ = some (.int .u8 (B (i + 2))) := hc (i + 2) (by omega)
    have c3 : w.cell? ⟨b, off + (i + 3), none⟩ = some (.int .u8 (B (i + 3))) := hc (i + 3) (by omega)
    clear hc
    have g0 : decide ((0 : Int) ≤ (i : Int)) = true := decide_eq_true (by omega)
    have g1 : decide ((i : Int) ≤ (n : Int) - 4) = true := decide_eq_true (by omega)
    by_cases e0 : B i = 110
    · have f0 : (B i == 110) = true := by simp [e0]
      by_cases e1 : B (i + 1) = 117
      · have f1 : (B (i + 1) == 117) = true := by simp [e1]
        by_cases e2 : B (i + 2) = 108
        · have f2 : (B (i + 2) == 108) = true := by simp [e2]
          by_cases e3 : B (i + 3) = 108
          · have f3 : (B (i + 3) == 108) = true := by simp [e3]
            have HN : Hid (NullAt B n i) := ⟨hi, e0, e1, e2, e3⟩
            clear e0 e1 e2 e3
            go_enter Try.func16, Try.ntmps16
            go_wp2_with fail
            go_ret
            exact ⟨.inl ⟨HN.out, by simp⟩, rfl⟩
          · have f3 : (B (i + 3) == 108) = false := by simp [e3]
            have HN : Hid (¬ NullAt B n i) := fun h => e3 h.2.2.2.2
            clear e0 e1 e2 e3
            go_enter Try.func16, Try.ntmps16
            go_wp2_with fail
            go_ret
            exact ⟨.inr ⟨HN.out, by simp⟩, rfl⟩
        · have f2 : (B (i + 2) == 108) = false := by simp [e2]
          have HN : Hid (¬ NullAt B n i) := fun h => e2 h.2.2.2.1
          clear e0 e1 e2
          go_enter Try.func16, Try.ntmps16
          go_wp2_with fail
          go_ret
          exact ⟨.inr ⟨HN.out, by simp⟩, rfl⟩
      · have f1 : (B (i + 1) == 117) = false := by simp [e1]
        have HN : Hid (¬ NullAt B n i) := fun h => e1 h.2.2.1
        clear e0 e1
        go_enter Try.func16, Try.ntmps16
        go_wp2_with fail
        go_ret
        exact ⟨.inr ⟨HN.out, by simp⟩, rfl⟩
    · have f0 : (B i == 110) = false := by simp [e0]
      have HN : Hid (¬ NullAt B n i) := fun h => e0 h.2.1
      clear e0
      go_enter Try.func16, Try.ntmps16
      go_wp2_with fail
      go_ret
      exact ⟨.inr ⟨HN.out, by simp⟩, rfl⟩
  · have g0 : decide ((0 : Int) ≤ (i : Int)) = true := decide_eq_true (by omega)
    have g1 : decide ((i : Int) ≤ (n : Int) - 4) = false := decide_eq_false (by omega)
    have HN : Hid (¬ NullAt B n i) := fun h => hi h.1
    clear hc
    go_enter Try.func16, Try.ntmps16
    go_wp2_with fail
    go_ret
    exact ⟨.inr ⟨HN.out, by simp⟩, rfl⟩

end Go.Proofs.Qxb6616402a
