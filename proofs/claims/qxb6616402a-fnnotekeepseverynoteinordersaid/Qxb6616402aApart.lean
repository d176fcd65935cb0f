import Derived.Test.Qxb6616402aNote
import Derived.Deep.RegionHeld3
import Derived.Deep.DrawnRows
import Derived.LaidEql
namespace Go.Proofs.Qxb6616402a
open Go.RowKit
set_option linter.unusedVariables false
attribute [local go_sem ↓] Go.wp_at_zero Go.wp_at_succ

/-- Of 0 .. k - 1 those whose bool is b. -/
def sel (T : Nat → Bool) (b : Bool) (k : Nat) : List Nat := (List.range k).filter fun i => T i == b

theorem sel_yes {T : Nat → Bool} {b : Bool} {k : Nat} (h : T k = b) : sel T b (k + 1) = sel T b k ++ [k] := by
  simp [sel, List.range_succ, List.filter_append, h]
theorem sel_no {T : Nat → Bool} {b : Bool} {k : Nat} (h : T k ≠ b) : sel T b (k + 1) = sel T b k := by
  simp [sel, List.range_succ, List.filter_append, h]
theorem sel_le (T : Nat → Bool) (b : Bool) (k : Nat) : (sel T b k).length ≤ k := by
  have := List.length_filter_le (fun i => T i == b) (List.range k)
  simpa [sel] using this
theorem sel_more (T : Nat → Bool) (b : Bool) (k : Nat) : ∀ m, ∃ r, sel T b (k + m) = sel T b k ++ r := by
  intro m
  induction m with
  | zero => exact ⟨[], by simp⟩
  | succ m ih =>
    obtain ⟨r, hr⟩ := ih
    by_cases h : T (k + m) = b
    · exact ⟨r ++ [k + m], by rw [← Nat.add_assoc, sel_yes h, hr, List.append_assoc]⟩
    · exact ⟨r, by rw [← Nat.add_assoc, sel_no h, hr]⟩
theorem sel_at {T : Nat → Bool} {b : Bool} {k n : Nat} (hk : k < n) (h : T k = b) : (sel T b n)[(sel T b k).length]? = some k := by
  obtain ⟨r, hr⟩ := sel_more T b (k + 1) (n - (k + 1))
  rw [show k + 1 + (n - (k + 1)) = n from by omega, sel_yes h] at hr
  rw [hr, List.append_assoc, List.getElem?_append_right (Nat.le_refl _)]
  simp
theorem sel_lt {T : Nat → Bool} {b : Bool} {k n : Nat} (hk : k < n) (h : T k = b) : (sel T b k).length < (sel T b n).length := by
  have := sel_at hk h
  rcases Nat.lt_or_ge (sel T b k).length (sel T b n).length with l | l
  · exact l
  · rw [List.getElem?_eq_none l] at this; cases this

theorem bytes28_any (a : Option Addr) (n c : Nat) (a1 : Option Addr) (n1 c1 : Nat) (a2 : Option Addr) (n2 c2 : Nat) (w : World) (hn : n ≤ maxLen) (hn1 : n1 ≤ maxLen) (hn2 : n2 ≤ maxLen) :
    Calls Try.prog 28 #[.slice a n c, .slice a1 n1 c1, .slice a2 n2 c2] w fun e w' => SomeBool e ∧ w' = w := by
  unfold maxLen at hn hn1 hn2
  by_cases h : n ≤ 1048576
  · by_cases h1 : n1 ≤ 1048576
    · by_cases h2 : n2 ≤ 1048576
      · go_enter Try.func28, Try.ntmps28
        go_wp2_with fail
        all_goals go_ret
        all_goals exact ⟨⟨_, rfl⟩, rfl⟩
      · go_enter Try.func28, Try.ntmps28
        go_wp2_with fail
        all_goals go_ret
        all_goals exact ⟨⟨_, rfl⟩, rfl⟩
    · go_enter Try.func28, Try.ntmps28
      go_wp2_with fail
      all_goals go_ret
      all_goals exact ⟨⟨_, rfl⟩, rfl⟩
  · go_enter Try.func28, Try.ntmps28
    go_wp2_with fail
    all_goals go_ret
    all_goals exact ⟨⟨_, rfl⟩, rfl⟩

theorem min_nat (x y : Nat) (w : World) : Calls Try.prog 18 #[.int .i64 x, .int .i64 y] w fun e w' => e = .returned (.int .i64 (if x < y then x else y : Nat)) ∧ w' = w := by
  have h := min_any (x : Int) (y : Int) w
  by_cases c : x < y
  · rw [if_pos c]; rw [if_pos (by omega)] at h; exact h
  · rw [if_neg c]; rw [if_neg (by omega)] at h; exact h

set_option maxRecDepth 100000 in
theorem apart_early (a : Option Addr) (n c : Nat) (a1 : Option Addr) (n1 c1 : Nat) (a2 : Option Addr) (n2 c2 : Nat) (w : World) (hn : n ≤ maxLen) (hn1 : n1 ≤ maxLen) (hn2 : n2 ≤ maxLen)
    (h : decide (131072 < (n : Int)) = true ∨ (decide (131072 < (n : Int)) = false ∧ decide (131072 < (n1 : Int)) = true) ∨ (decide (131072 < (n : Int)) = false ∧ decide (131072 < (n1 : Int)) = false ∧ decide (131072 < (n2 : Int)) = true) ∨
      (decide (131072 < (n : Int)) = false ∧ decide (131072 < (n1 : Int)) = false ∧ decide (131072 < (n2 : Int)) = false ∧ n ≤ 131072 ∧ n1 ≤ 131072 ∧ n2 ≤ 131072 ∧ 1048576 < 8 * n + 8 * n1 + n2)) :
    Calls Try.prog 7 #[.slice a n c, .slice a1 n1 c1, .slice a2 n2 c2] w fun e w' => e = .returned (.bool true) ∧ Below w.heap.size w w' := by
  have hnn : n ≤ 9223372036854775807 := hn
  have hnn1 : n1 ≤ 9223372036854775807 := hn1
  have hnn2 : n2 ≤ 9223372036854775807 := hn2
  rcases h with h1 | ⟨h1, h2⟩ | ⟨h1, h2, h3⟩ | ⟨h1, h2, h3, h4, h5, h6, h7⟩
  all_goals
    go_enter Try.func7, Try.ntmps7
    go_wp2_with fail
    refine (bytes28_any _ _ _ _ _ _ _ _ _ _ hn hn1 hn2).mono ?_
    rintro e w1 ⟨⟨b, rfl⟩, hw⟩
    obtain rfl := hw.symm
    cases b
  all_goals go_wp2_with fail
  all_goals go_ret
  all_goals exact ⟨rfl, Below.refl _ _⟩

end Go.Proofs.Qxb6616402a
