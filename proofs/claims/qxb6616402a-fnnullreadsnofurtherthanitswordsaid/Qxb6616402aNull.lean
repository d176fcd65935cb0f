import Derived.Test.Qxb6616402aBase
import Derived.Laws.BytesArg
import Derived.BigGuardPart
namespace Go.Proofs.Qxb6616402a
open Go.RowKit
set_option linter.unusedVariables false

/-- White space. -/
def isSp (c : Int) : Bool := c == 32 || c == 9 || c == 10 || c == 13

theorem isSpace_any (c : Int) (w : World) (h0 : 0 ≤ c) (h1 : c ≤ 255) : Calls Try.prog 17 #[.int .u8 c] w fun e w' => e = .returned (.bool (isSp c)) ∧ w' = w := by
  by_cases e1 : c = 32
  · subst e1
    go_enter Try.func17, Try.ntmps17
    go_wp2_with fail
    go_ret
    exact ⟨rfl, rfl⟩
  have d1 : (c == 32) = false := by simp [e1]
  by_cases e2 : c = 9
  · subst e2
    go_enter Try.func17, Try.ntmps17
    go_wp2_with fail
    go_ret
    exact ⟨rfl, rfl⟩
  have d2 : (c == 9) = false := by simp [e2]
  by_cases e3 : c = 10
  · subst e3
    go_enter Try.func17, Try.ntmps17
    go_wp2_with fail
    go_ret
    exact ⟨rfl, rfl⟩
  have d3 : (c == 10) = false := by simp [e3]
  by_cases e4 : c = 13
  · subst e4
    go_enter Try.func17, Try.ntmps17
    go_wp2_with fail
    go_ret
    exact ⟨rfl, rfl⟩
  have d4 : (c == 13) = false := by simp [e4]
  have hs : isSp c = false := by simp [isSp, d1, d2, d3, d4]
  rw [hs]
  clear hs e1 e2 e3 e4
  go_enter Try.func17, Try.ntmps17
  go_wp2_with fail
  go_ret
  exact ⟨rfl, rfl⟩

/-- A Decoder at block g: its data, where it stands; the second may be written. -/
structure Dec (w : World) (g : Nat) (a : Option Addr) (n c : Nat) (x : Int) : Prop where
  data : w.cell? ⟨g, 0, none⟩ = some (.slice a n c)
  spot : w.cell? ⟨g, 1, none⟩ = some (.int .i64 x)
  free : w.frozen? ⟨g, 1, none⟩ = false

/-- From i on white space runs to q (of n bytes). -/
def Skips (B : Nat → Int) (n i q : Nat) : Prop := i ≤ q ∧ q ≤ n ∧ (∀ j, i ≤ j → j < q → isSp (B j) = true) ∧ (q < n → isSp (B q) = false)

def SpacePost (w : World) (g : Nat) (B : Nat → Int) (n i : Nat) (e : Ending) (w' : World) : Prop :=
  e = .returned (.tuple #[]) ∧ ∃ q m, Skips B n i q ∧ w' = (w.setCell ⟨g, 1, none⟩ (.int .i64 (q : Nat))).drewN m

theorem skip_step {B : Nat → Int} {i k : Nat} (h : ∀ m, i ≤ m → m < k → isSp (B m) = true) (hk : isSp (B k) = true) : ∀ m, i ≤ m → m < k + 1 → isSp (B m) = true := by
  intro m h1 h2
  by_cases e : m = k
  · rw [e]; exact hk
  · exact h m h1 (by omega)

theorem space_any (g : Nat) (a : Option Addr) (n c i : Nat) (B : Nat → Int) (w : World) (hn : n ≤ 1048576) (hi : i ≤ n) (hd : Dec w g a n c i) (hc : CellsAt w a n (fun j => .int .u8 (B j)))
    (hB : ∀ j, j < n → 0 ≤ B j ∧ B j ≤ 255) : Calls Try.prog 35 #[.pointer (some ⟨g, 0, none⟩)] w fun e w' => SpacePost w g B n i e w' := by
  obtain ⟨d0, d1, d2⟩ := hd
  go_enter Try.func35, Try.ntmps35
  go_wp2_with fail
  go_quiet (fail)
  go_wp2_with fail
  go_loop [3] (fun j => ∃ k : Nat, i ≤ k ∧ k ≤ n ∧ j = .int .i64 k ∧ ∀ m, i ≤ m → m < k → isSp (B m) = true) (fun j => n - (intOf j).toNat)
  case atStart => exact ⟨i, Nat.le_refl _, hi, rfl, fun m h1 h2 => by omega⟩
  case round =>
    obtain ⟨k, hik, hkn, rfl, hsp⟩ := hrel
    have HS : Hid (∀ m, i ≤ m → m < k → isSp (B m) = true) := hsp
    clear hsp
    by_cases hlt : k < n
    · rcases hc with rfl | ⟨b, off, rfl, hc⟩
      · omega
      have c0 : w.cell? ⟨b, off + k, none⟩ = some (.int .u8 (B k)) := hc k hlt
      have hBk := hB k hlt
      clear hc hB
      have t0 : decide ((k : Int) < (n : Int)) = true := decide_eq_true (by omega)
      by_cases e1 : B k = 32
      · have b1 : (B k == 32) = true := by simp [e1]
        have HP : Hid (isSp (B k) = true) := by simp [Hid, isSp, e1]
        clear e1
        go_wp2_with fail
        go_round
        case rel => exact ⟨k + 1, by omega, by omega, by go_num, skip_step HS.out HP.out⟩
        case measure => simp [intOf]; omega
      have b1 : (B k == 32) = false := by simp [e1]
      by_cases e2 : B k = 9
      · have b2 : (B k == 9) = true := by simp [e2]
        have HP : Hid (isSp (B k) = true) := by simp [Hid, isSp, e2]
        clear e1 e2
        go_wp2_with fail
        go_round
        case rel => exact ⟨k + 1, by omega, by omega, by go_num, skip_step HS.out HP.out⟩
        case measure => simp [intOf]; omega
      have b2 : (B k == 9) = false := by simp [e2]
      by_cases e3 : B k = 10
      · have b3 : (B k == 10) = true := by simp [e3]
        have HP : Hid (isSp (B k) = true) := by simp [Hid, isSp, e3]
        clear e1 e2 e3
        go_wp2_with fail
        go_round
        case rel => exact ⟨k + 1, by omega, by omega, by go_num, skip_step HS.out HP.out⟩
        case measure => simp [intOf]; omega
      have b3 : (B k == 10) = false := by simp [e3]
      by_cases e4 : B k = 13
      · have b4 : (B k == 13) = true := by simp [e4]
        have HP : Hid (isSp (B k) = true) := by simp [Hid, isSp, e4]
        clear e1 e2 e3 e4
        go_wp2_with fail
        go_round
        case rel => exact ⟨k + 1, by omega, by omega, by go_num, skip_step HS.out HP.out⟩
        case measure => simp [intOf]; omega
      have b4 : (B k == 13) = false := by simp [e4]
      have HP : Hid (isSp (B k) = false) := by simp [Hid, isSp, e1, e2, e3, e4]
      clear e1 e2 e3 e4
      go_wp2_with fail
      go_end0
      exact ⟨rfl, k, nq, ⟨hik, hkn, HS.out, fun _ => HP.out⟩, rfl⟩
    · have t0 : decide ((k : Int) < (n : Int)) = false := decide_eq_false (by omega)
      clear hB
      go_wp2_with fail
      go_end0
      exact ⟨rfl, k, nq, ⟨hik, hkn, HS.out, fun h => absurd h hlt⟩, rfl⟩

theorem literal_short (g : Nat) (a : Option Addr) (n c q : Nat) (w : World) (hn : n ≤ 1048576) (hq : q ≤ n) (hd : Dec w g a n c q) (h : n < q + 4) :
    Calls Try.prog 36 #[.pointer (some ⟨g, 0, none⟩), .string ⟨#[110, 117, 108, 108]⟩] w fun e w' => e = .returned (.bool false) ∧ ∃ m, w' = w.drewN m := by
  obtain ⟨d0, d1, d2⟩ := hd
  have t0 : decide ((n : Int) - (q : Int) < 4) = true := decide_eq_true (by omega)
  go_enter Try.func36, Try.ntmps36
  go_wp2_with fail
  go_quiet (fail)
  go_wp2_with fail
  go_ret
  exact ⟨rfl, _, rfl⟩

theorem literal_no (g b off : Nat) (n c q : Nat) (S : ByteArray) (w : World) (hn : n ≤ 1048576) (hnc : n ≤ c) (hcm : c ≤ maxLen) (hq : q + 4 ≤ n) (hd : Dec w g (some ⟨b, off, none⟩) n c q)
    (hcv : ∀ k, (convert 22 9 (.slice (some ⟨b, off + q, none⟩) 4 (c - q))).run Try.prog (w.drewN k) = .ok (.string S) (w.drewN k)) (hS : (S.toList == [110, 117, 108, 108]) = false) :
    Calls Try.prog 36 #[.pointer (some ⟨g, 0, none⟩), .string ⟨#[110, 117, 108, 108]⟩] w fun e w' => e = .returned (.bool false) ∧ ∃ m, w' = w.drewN m := by
  obtain ⟨d0, d1, d2⟩ := hd
  unfold maxLen at hcm
  have t0 : decide ((n : Int) - (q : Int) < 4) = false := decide_eq_false (by omega)
  have q0 : (0 : Int) ≤ (q : Int) := by omega
  have q1 : (q : Int) ≤ (q : Int) + 4 := by omega
  have q2 : (q : Int) + 4 ≤ (c : Int) := by omega
  go_enter Try.func36, Try.ntmps36
  go_wp2_with fail
  go_quiet (fail)
  go_wp2_with fail
  go_ret
  exact ⟨rfl, _, rfl⟩

theorem literal_yes (g b off : Nat) (n c q : Nat) (S : ByteArray) (w : World) (hn : n ≤ 1048576) (hnc : n ≤ c) (hcm : c ≤ maxLen) (hq : q + 4 ≤ n) (hd : Dec w g (some ⟨b, off, none⟩) n c q)
    (hcv : ∀ k, (convert 22 9 (.slice (some ⟨b, off + q, none⟩) 4 (c - q))).run Try.prog (w.drewN k) = .ok (.string S) (w.drewN k)) (hS : (S.toList == [110, 117, 108, 108]) = true) :
    Calls Try.prog 36 #[.pointer (some ⟨g, 0, none⟩), .string ⟨#[110, 117, 108, 108]⟩] w fun e w' => e = .returned (.bool true) ∧ ∃ m, w' = (w.setCell ⟨g, 1, none⟩ (.int .i64 ((q : Int) + 4))).drewN m := by
  obtain ⟨d0, d1, d2⟩ := hd
  unfold maxLen at hcm
  have t0 : decide ((n : Int) - (q : Int) < 4) = false := decide_eq_false (by omega)
  have q0 : (0 : Int) ≤ (q : Int) := by omega
  have q1 : (q : Int) ≤ (q : Int) + 4 := by omega
  have q2 : (q : Int) + 4 ≤ (c : Int) := by omega
  go_enter Try.func36, Try.ntmps36
  go_wp2_with fail
  go_quiet (fail)
  go_wp2_with fail
  go_ret
  exact ⟨rfl, _, rfl⟩

end Go.Proofs.Qxb6616402a
