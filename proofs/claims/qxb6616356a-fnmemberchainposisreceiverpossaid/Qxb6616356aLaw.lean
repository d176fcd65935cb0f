import Derived.Test.Qxb6616356aWalks
import Derived.Deep.RegionHeld3
import Derived.Deep.DrawnRows
namespace Go.Proofs.Qxb6616356a
open Go.RowKit
set_option linter.unusedVariables false
attribute [local go_sem ↓] Go.wp_at_zero Go.wp_at_succ

/-- A slice of steps reads in w as the numbers Q i, N i. -/
def StepsAt (w : World) (a : Option Addr) (n : Nat) (Q N : Nat → Int) : Prop :=
  n = 0 ∨ ∃ b off, a = some ⟨b, off, none⟩ ∧ ∀ i, i < n → w.cell? ⟨b, off + i * 2, none⟩ = some (.int .i64 (Q i)) ∧ w.cell? ⟨b, off + i * 2 + 1, none⟩ = some (.int .i64 (N i))

theorem law_walk (x y z : Int) (a : Option Addr) (n c : Nat) (Q N : Nat → Int) (w : World) (hn : n ≤ maxLen) (hs : StepsAt w a n Q N) :
    Calls Try.prog 3 #[.int .i64 x, .int .i64 y, .int .i64 z, .slice a n c] w fun e w' => e = .returned (.bool true) ∧ Below w.heap.size w w' := by
  have hnn : n ≤ 9223372036854775807 := hn
  have hxx : (x == x) = true := by simp
  by_cases hn4 : n ≤ 65536
  · go_enter Try.func3, Try.ntmps3
    go_wp2_with fail
    refine (bytes_any _ _ _ _ _ _ _ hn).mono ?_
    rintro e w1 ⟨⟨b, rfl⟩, hw⟩
    obtain rfl := hw.symm
    cases b
    · go_wp2_with fail
      go_ret
      exact ⟨rfl, Below.refl _ _⟩
    go_wp2_with fail
    refine (newIdent_any x y z w).mono ?_
    rintro e w1 ⟨b0, rfl, hch0, hb1⟩
    go_wp2_with fail
    go_loopw [10, 11] (fun v i wr => ∃ k b : Nat, k ≤ n ∧ i = .int .i64 k ∧ v = .pointer (some ⟨b, 0, none⟩) ∧ Chain wr x k b ∧ Below w1.heap.size w1 wr) (fun _ i _ => n - (intOf i).toNat)
    case atStart => exact ⟨0, b0, Nat.zero_le _, rfl, rfl, hch0, Below.refl _ _⟩
    case round =>
      obtain ⟨k, bm, hk, rfl, rfl, hch, hbr⟩ := hrel
      have hbw : Below w.heap.size w wr := hb1.trans (hbr.mono hb1.size)
      by_cases hlt : k < n
      · rcases hs with rfl | ⟨b, off, rfl, hc⟩
        · omega
        · have c0 : wr.cell? ⟨b, off + k * 2, none⟩ = some (.int .i64 (Q k)) := below_keeps hbw (hc k hlt).1
          have c1 : wr.cell? ⟨b, off + k * 2 + 1, none⟩ = some (.int .i64 (N k)) := below_keeps hbw (hc k hlt).2
          have hk0 : (0 : Int) ≤ (k : Int) := by omega
          have hk1 : (k : Int) < (n : Int) := by omega
          clear hc
          go_wp2_with fail
          go_region_held3 (fun w' => w'.cell? ⟨b, off + k * 2, none⟩ = some (.int .i64 (Q k)) ∧ w'.cell? ⟨b, off + k * 2 + 1, none⟩ = some (.int .i64 (N k)))
            (first
              | go_keep
              | (go_split_ands
                 refine ⟨below_keeps hb' ?_, below_keeps hb' ?_⟩ <;> assumption))
            ((go_at_call 8; refine (newMember_any x k bm _ _ _ (by exact hch.below ((Below.refl _ _).drew))).mono ?_; rintro e w' ⟨b', rfl, hch', hb'⟩))
          go_wp2_with fail
          go_roundw
          case rel => exact ⟨k + 1, b', by omega, by go_num, rfl, hch', hbr.drew.trans (hb'.mono hbr.size)⟩
          case measure => simp [intOf]; omega
      · go_wp2_with fail
        refine (memberPos_any x 0 b0 wr (hch0.below hbr)).mono ?_
        rintro e w2 ⟨rfl, hw⟩
        obtain rfl := hw.symm
        go_wp2_with (go_at_call 9; refine (memberPos_any x k bm wr hch).mono ?_; rintro e w2 ⟨rfl, hw⟩; obtain rfl := hw.symm)
        go_ret
        exact ⟨by simp, hbw⟩
  · go_enter Try.func3, Try.ntmps3
    go_wp2_with (go_at_call 6; refine (bytes_any _ _ _ _ _ _ _ hn).mono ?_; rintro e w1 ⟨⟨b, rfl⟩, hw⟩; obtain rfl := hw.symm)
    all_goals go_ret
    all_goals exact ⟨rfl, Below.refl _ _⟩

end Go.Proofs.Qxb6616356a
