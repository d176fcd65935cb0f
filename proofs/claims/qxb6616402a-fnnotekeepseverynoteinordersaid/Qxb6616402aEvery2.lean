import Derived.Test.Qxb6616402aEvery
import Derived.Test.Qxb6616402aApart
namespace Go.Proofs.Qxb6616402a
open Go.RowKit
set_option linter.unusedVariables false
attribute [local go_sem ↓] Go.wp_at_zero Go.wp_at_succ

/-- '!=' between one pointer and itself. -/
theorem neq_ptr_self' (a : Addr) (w : World) : (binOp .neq 41 (.pointer (some a)) (.pointer (some a))).run Try.prog w = .ok (.bool false) w := by
  obtain ⟨j, hj, -, -, -⟩ := info_parts Try.info9
  exact Lib.run_neq_ptr_same w a Try.underlying41 hj

/-- The indices 0 .. k - 1. -/
def upto (k : Nat) : List Nat := List.range k
theorem upto_succ (k : Nat) : upto (k + 1) = upto k ++ [k] := List.range_succ
theorem upto_len (k : Nat) : (upto k).length = k := List.length_range
theorem upto_at {k n : Nat} (h : k < n) : (upto n)[k]? = some k := by simp [upto, h]

theorem touched_below {w w' : World} {g : Nat} {row : Option Nat} (h : Touched w w' g row) (hs : g + 1 ≤ w.heap.size) (hr : ∀ b, row = some b → g + 1 ≤ b) : Below g w w' :=
  ⟨h.os, h.tape, h.output, h.size, fun j hj => h.block j (by omega) (by omega) (fun e => by have := hr j e.symm; omega)⟩

set_option maxRecDepth 100000 in
theorem every_early (a0 : Option Addr) (n0 c0 : Nat) (x : Int) (y : Bool) (a1 : Option Addr) (n1 c1 : Nat) (a2 : Option Addr) (n2 c2 : Nat) (a3 : Option Addr) (n3 c3 : Nat) (X : Nat → ByteArray) (w : World)
    (h0 : n0 ≤ maxLen) (h1 : n1 ≤ maxLen) (h2 : n2 ≤ maxLen) (h3 : n3 ≤ maxLen) (hc : CellsAt w a3 n3 (fun j => .string (X j))) (hX : ∀ j, j < n3 → (X j).size ≤ maxLen)
    (h : decide (1048576 < (n0 : Int)) = true ∨ (decide (1048576 < (n0 : Int)) = false ∧ decide (131072 < (n1 : Int)) = true) ∨
      (decide (1048576 < (n0 : Int)) = false ∧ decide (131072 < (n1 : Int)) = false ∧ decide (131072 < (n2 : Int)) = true) ∨
      (decide (1048576 < (n0 : Int)) = false ∧ decide (131072 < (n1 : Int)) = false ∧ decide (131072 < (n2 : Int)) = false ∧ decide (131072 < (n3 : Int)) = true) ∨
      (decide (1048576 < (n0 : Int)) = false ∧ decide (131072 < (n1 : Int)) = false ∧ decide (131072 < (n2 : Int)) = false ∧ decide (131072 < (n3 : Int)) = false ∧ n0 ≤ 1048576 ∧ n1 ≤ 131072 ∧ n2 ≤ 131072 ∧ 1048576 < n0 + 8 * n1 + 8 * n2)) :
    Calls Try.prog 6 #[.slice a0 n0 c0, .int .i64 x, .bool y, .slice a1 n1 c1, .slice a2 n2 c2, .slice a3 n3 c3] w fun e w' => e = .returned (.bool true) ∧ Below w.heap.size w w' := by
  have HX : Hid (∀ j, j < n3 → (X j).size ≤ maxLen) := hX
  have HC : Hid (CellsAt w a3 n3 (fun j => .string (X j))) := hc
  clear hX hc
  have g0 : n0 ≤ 9223372036854775807 := h0
  have g1 : n1 ≤ 9223372036854775807 := h1
  have g2 : n2 ≤ 9223372036854775807 := h2
  have g3 : n3 ≤ 9223372036854775807 := h3
  rcases h with e1 | ⟨e1, e2⟩ | ⟨e1, e2, e3⟩ | ⟨e1, e2, e3, e4⟩ | ⟨e1, e2, e3, e4, e5, e6, e7, e8⟩
  all_goals
    go_enter Try.func6, Try.ntmps6
    go_wp2_with fail
    refine (bytes19_any _ _ _ _ _ _ _ _ _ _ _ _ _ _ X _ h0 h1 h2 h3 HC.out HX.out).mono ?_
    rintro e w1 ⟨⟨b, rfl⟩, hw⟩
    obtain rfl := hw.symm
    cases b
  all_goals go_wp2_with fail
  all_goals go_ret
  all_goals exact ⟨rfl, Below.refl _ _⟩

set_option maxRecDepth 100000 in
set_option maxHeartbeats 6400000 in
theorem every_walk (a0 : Option Addr) (n0 c0 : Nat) (x : Int) (y : Bool) (a1 : Option Addr) (n1 c1 : Nat) (a2 : Option Addr) (n2 c2 : Nat) (a3 : Option Addr) (n3 c3 : Nat) (B S E : Nat → Int) (X : Nat → ByteArray) (w : World)
    (l0 : n0 ≤ 1048576) (l1 : n1 ≤ 131072) (l2 : n2 ≤ 131072) (l3 : n3 ≤ 131072) (ls : n0 + 8 * n1 + 8 * n2 ≤ 1048576)
    (h0 : CellsAt w a0 n0 (fun j => .int .u8 (B j))) (h1 : CellsAt w a1 n1 (fun j => .int .i64 (S j))) (h2 : CellsAt w a2 n2 (fun j => .int .i64 (E j))) (h3 : CellsAt w a3 n3 (fun j => .string (X j)))
    (e0 : a0 = none → n0 = 0 ∧ c0 = 0) (e1 : a1 = none → n1 = 0 ∧ c1 = 0) (e2 : a2 = none → n2 = 0 ∧ c2 = 0) (e3 : a3 = none → n3 = 0 ∧ c3 = 0) (hX : ∀ j, j < n3 → (X j).size ≤ maxLen) :
    Calls Try.prog 6 #[.slice a0 n0 c0, .int .i64 x, .bool y, .slice a1 n1 c1, .slice a2 n2 c2, .slice a3 n3 c3] w fun e w' => e = .returned (.bool true) ∧ Below w.heap.size w w' := by
  have H0 : Hid (CellsAt w a0 n0 (fun j => .int .u8 (B j))) := h0
  have H1 : Hid (CellsAt w a1 n1 (fun j => .int .i64 (S j))) := h1
  have H2 : Hid (CellsAt w a2 n2 (fun j => .int .i64 (E j))) := h2
  have H3 : Hid (CellsAt w a3 n3 (fun j => .string (X j))) := h3
  have E0 : Hid (a0 = none → n0 = 0 ∧ c0 = 0) := e0
  have E1 : Hid (a1 = none → n1 = 0 ∧ c1 = 0) := e1
  have E2 : Hid (a2 = none → n2 = 0 ∧ c2 = 0) := e2
  have E3 : Hid (a3 = none → n3 = 0 ∧ c3 = 0) := e3
  have HX : Hid (∀ j, j < n3 → (X j).size ≤ maxLen) := hX
  clear h0 h1 h2 h3 e0 e1 e2 e3 hX
  have d0 : decide (1048576 < (n0 : Int)) = false := decide_eq_false (by omega)
  have d1 : decide (131072 < (n1 : Int)) = false := decide_eq_false (by omega)
  have d2 : decide (131072 < (n2 : Int)) = false := decide_eq_false (by omega)
  have d3 : decide (131072 < (n3 : Int)) = false := decide_eq_false (by omega)
  go_enter Try.func6, Try.ntmps6
  go_wp2_with fail
  refine (bytes19_any _ _ _ _ _ _ _ _ _ _ _ _ _ _ X _ (by unfold maxLen; omega) (by unfold maxLen; omega) (by unfold maxLen; omega) (by unfold maxLen; omega) H3.out HX.out).mono ?_
  rintro e w1 ⟨⟨b, rfl⟩, hw⟩
  obtain rfl := hw.symm
  cases b
  · go_wp2_with fail
    go_ret
    exact ⟨rfl, Below.refl _ _⟩
  go_wp2_with fail
  go_loop [13, 14] (fun t i => ∃ (k : Nat) (s : Int), k ≤ n3 ∧ i = .int .i64 k ∧ t = .int .i64 s) (fun _ i => n3 - (intOf i).toNat)
  case atStart => exact ⟨0, _, Nat.zero_le _, rfl, rfl⟩
  case round =>
    obtain ⟨k, s, hk, rfl, rfl⟩ := hrel
    by_cases hlt : k < n3
    · rcases H3.out with hx | ⟨b, off, rfl, hc⟩
      · omega
      have hc1 : w.cell? ⟨b, off + k, none⟩ = some (.string (X k)) := hc k hlt
      have hXk := HX.out k hlt
      unfold maxLen at hXk
      clear hc
      go_wp2_with fail
      · go_ret
        exact ⟨rfl, Below.refl _ _⟩
      · go_ret
        exact ⟨rfl, Below.refl _ _⟩
      · go_round
        case rel => exact ⟨k + 1, _, by omega, by go_num, rfl⟩
        case measure => simp [intOf]; omega
    · have hkk : k ≤ n3 := hk
      go_wp2_with fail
      refine (cloneBytes_any a0 n0 c0 B w (by omega) H0.out E0.out).mono ?_
      rintro e w1 ⟨b0, rfl, hc0, -, hz0, hb1⟩
      have K0 : Hid (CellsAt w1 b0 n0 (fun j => .int .u8 (B j))) := hc0
      have Z0 : Hid (b0 = none → n0 = 0) := hz0
      clear hc0 hz0
      go_wp2_with fail
      refine (cloneInts_any a1 n1 c1 S w1 (by omega) (H1.out.below hb1) E1.out).mono ?_
      rintro e w2 ⟨b1, rfl, hc1, -, -, hb2⟩
      have K1 : Hid (CellsAt w2 b1 n1 (fun j => .int .i64 (S j))) := hc1
      have hbw2 : Below w.heap.size w w2 := hb1.trans (hb2.mono hb1.size)
      have K0 : Hid (CellsAt w2 b0 n0 (fun j => .int .u8 (B j))) := K0.out.below hb2
      clear hc1
      go_wp2_with fail
      refine (cloneInts_any a2 n2 c2 E w2 (by omega) (H2.out.below hbw2) E2.out).mono ?_
      rintro e w3 ⟨b2, rfl, hc2, -, -, hb3⟩
      have K2 : Hid (CellsAt w3 b2 n2 (fun j => .int .i64 (E j))) := hc2
      have K1 : Hid (CellsAt w3 b1 n1 (fun j => .int .i64 (S j))) := K1.out.below hb3
      have K0 : Hid (CellsAt w3 b0 n0 (fun j => .int .u8 (B j))) := K0.out.below hb3
      have hbw3 : Below w.heap.size w w3 := hbw2.trans (hb3.mono hbw2.size)
      clear hc2
      go_wp2_with fail
      refine (cloneStrings_any a3 n3 c3 X w3 (by omega) (H3.out.below hbw3) E3.out).mono ?_
      rintro e w4 ⟨b3, rfl, hc3, -, -, hb4⟩
      have K3 : Hid (CellsAt w4 b3 n3 (fun j => .string (X j))) := hc3
      have K2 : Hid (CellsAt w4 b2 n2 (fun j => .int .i64 (E j))) := K2.out.below hb4
      have K1 : Hid (CellsAt w4 b1 n1 (fun j => .int .i64 (S j))) := K1.out.below hb4
      have K0 : Hid (CellsAt w4 b0 n0 (fun j => .int .u8 (B j))) := K0.out.below hb4
      have hbw4 : Below w.heap.size w w4 := hbw3.trans (hb4.mono hbw3.size)
      clear hc3
      go_wp2_with fail
      refine (cloneBytes_any b0 n0 n0 B w4 (by omega) K0.out (fun h => ⟨Z0.out h, Z0.out h⟩)).mono ?_
      rintro e w5 ⟨b4, rfl, hc4, hnil, -, hb5⟩
      have HN : Hid (b4 = none ↔ b0 = none) := hnil
      have K4 : Hid (CellsAt w5 b4 n0 (fun j => .int .u8 (B j))) := hc4
      have K3 : Hid (CellsAt w5 b3 n3 (fun j => .string (X j))) := K3.out.below hb5
      have K2 : Hid (CellsAt w5 b2 n2 (fun j => .int .i64 (E j))) := K2.out.below hb5
      have K1 : Hid (CellsAt w5 b1 n1 (fun j => .int .i64 (S j))) := K1.out.below hb5
      have K0 : Hid (CellsAt w5 b0 n0 (fun j => .int .u8 (B j))) := K0.out.below hb5
      have hbw5 : Below w.heap.size w w5 := hbw4.trans (hb5.mono hbw4.size)
      clear hc4 hnil hb1 hb2 hb3 hb4 hb5 hbw2 hbw3 hbw4 H0 H1 H2 H3 E0 E1 E2 E3
      go_wp2_with fail
      refine (min_nat n2 n3 w5).mono ?_
      rintro e w6 ⟨rfl, hw⟩
      obtain rfl := hw.symm
      obtain ⟨m, hm, hm1, hm2⟩ : ∃ m : Nat, (if n2 < n3 then n2 else n3) = m ∧ m ≤ n2 ∧ m ≤ n3 := ⟨_, rfl, by split <;> omega, by split <;> omega⟩
      rw [hm]
      clear hm
      go_wp2_with fail
      refine (min_nat n1 m w5).mono ?_
      rintro e w6 ⟨rfl, hw⟩
      obtain rfl := hw.symm
      obtain ⟨n, hn, hn1, hnm⟩ : ∃ n : Nat, (if n1 < m then n1 else m) = n ∧ n ≤ n1 ∧ n ≤ m := ⟨_, rfl, by split <;> omega, by split <;> omega⟩
      rw [hn]
      clear hn
      have hmk := fun kl kc => run_make_row' (P := Try.prog) 34 9 (.string ByteArray.empty) 16 Try.underlying34 Try.info9 rfl kl kc n (by omega) (by omega)
      go_wp2_with fail
      clear hmk
      have hfm := filled_made w5 (.string ByteArray.empty) 9 n (fun j => .string (X j))
      go_loopw [18] (fun i wr => ∃ k : Nat, k ≤ n ∧ i = .int .i64 k ∧ Filled wr w5.heap.size 9 n k (fun j => .string (X j)) ∧ Below w5.heap.size w5 wr) (fun i _ => n - (intOf i).toNat)
      case atStart => exact ⟨0, Nat.zero_le _, rfl, hfm, (Below.refl _ _).alloc (Nat.le_refl _) _⟩
      case round =>
        clear hfm
        obtain ⟨k, hk, rfl, hf, hbr⟩ := hrel
        have HF : Hid (Filled wr w5.heap.size 9 n k (fun j => .string (X j))) := hf
        by_cases hlt : k < n
        · rcases K3.out with hx | ⟨q3, o3, rfl, s3⟩
          · omega
          obtain ⟨f, hrow, -⟩ := hf
          have x3 : wr.cell? ⟨q3, o3 + k, none⟩ = some (.string (X k)) := below_keeps hbr (s3 k (by omega))
          have y0 : wr.cell? ⟨w5.heap.size, k, none⟩ = some (f k) := hrow.cell hlt
          have z0 : wr.frozen? ⟨w5.heap.size, k, none⟩ = false := hrow.frozen _
          have hk0 : (k : Int) < (n3 : Int) := by omega
          clear s3 hrow
          go_wp2_with fail
          go_roundw
          case rel => exact ⟨k + 1, by omega, by go_num, filled_step HF.out, hbr.setCell (Nat.le_refl _) _⟩
          case measure => simp [intOf]; omega
        · obtain rfl : n = k := by omega
          have hcells : Hid (CellsAt wr (some ⟨w5.heap.size, 0, none⟩) n (fun j => .string (X j))) := filled_cells HF.out
          have hCg : w5.heap.size < wr.heap.size := by obtain ⟨f, hrow, -⟩ := HF.out; exact hrow.lt
          clear hf HF
          go_wp2_with fail
          refine (newPrevious_any b0 n0 n0 x y wr).mono ?_
          rintro e w6 ⟨rfl, rfl⟩
          have hP0 := prev_new wr b0 n0 n0 x y (fun i => ⟨S i, E i, ⟨w5.heap.size, i, none⟩⟩) (wr.heap.size + 1)
          have hb6 : Below wr.heap.size wr (wr.alloc (.cells #[.slice b0 n0 n0, .slice none 0 0, .int .i64 x, .bool y] 58)) := (Below.refl _ _).alloc (Nat.le_refl _) _
          have hs6 : wr.heap.size + 1 ≤ (wr.alloc (.cells #[.slice b0 n0 n0, .slice none 0 0, .int .i64 x, .bool y] 58)).heap.size := by simp
          have hc6 := hcells.out.below hb6
          have hb56 : Below w5.heap.size w5 (wr.alloc (.cells #[.slice b0 n0 n0, .slice none 0 0, .int .i64 x, .bool y] 58)) := hbr.trans (hb6.mono hbr.size)
          generalize wr.alloc (.cells #[.slice b0 n0 n0, .slice none 0 0, .int .i64 x, .bool y] 58) = w6 at hP0 hb6 hs6 hc6 hb56 ⊢
          clear hcells hbr hb6
          generalize wr.heap.size = g at hP0 hs6 hCg ⊢
          have HC6 : Hid (CellsAt w6 (some ⟨w5.heap.size, 0, none⟩) n (fun j => .string (X j))) := hc6
          clear hc6
          go_wp2_with fail
          go_loopw [20] (fun i wr => ∃ (k : Nat) (v : Value), k ≤ n ∧ i = .int .i64 k ∧ Prev wr g (g + 1) (.slice b0 n0 n0) v x y (fun i => ⟨S i, E i, ⟨w5.heap.size, i, none⟩⟩) (upto k) ∧ Below g w6 wr ∧ g + 1 ≤ wr.heap.size) (fun i _ => n - (intOf i).toNat)
          case atStart => exact ⟨0, _, Nat.zero_le _, rfl, hP0, Below.refl _ _, hs6⟩
          case round =>
            clear hP0 hs6
            obtain ⟨k, v, hk, rfl, hprev, hbr, hsr⟩ := hrel
            have HP : Hid (Prev wr g (g + 1) (.slice b0 n0 n0) v x y (fun i => ⟨S i, E i, ⟨w5.heap.size, i, none⟩⟩) (upto k)) := hprev
            have hb5r : Below w5.heap.size w5 wr := hb56.trans (hbr.mono (by omega))
            clear hprev
            by_cases hlt : k < n
            · rcases K1.out with hx | ⟨q1, o1, rfl, s1⟩
              · omega
              rcases K2.out with hx | ⟨q2, o2, rfl, s2⟩
              · omega
              have y1 := s1 k (by omega)
              have y2 := s2 k (by omega)
              have x1 : wr.cell? ⟨q1, o1 + k, none⟩ = some (.int .i64 (S k)) := below_keeps hb5r y1
              have x2 : wr.cell? ⟨q2, o2 + k, none⟩ = some (.int .i64 (E k)) := below_keeps hb5r y2
              have hk0 : (0 : Int) ≤ (k : Int) := by omega
              have hk1 : (k : Int) < (n : Int) := by omega
              have hk2 : (k : Int) < (n1 : Int) := by omega
              have hk3 : (k : Int) < (n2 : Int) := by omega
              clear s1 s2
              go_wp2_with fail
              go_region_held3 (fun w' => w'.cell? ⟨q1, o1 + k, none⟩ = some (.int .i64 (S k)) ∧ w'.cell? ⟨q2, o2 + k, none⟩ = some (.int .i64 (E k)))
                (first
                  | go_keep
                  | exact ⟨below_keeps hb9 y1, below_keeps hb9 y2⟩)
                ((go_at_call 23; refine (zzNote_any g (g + 1) (.slice b0 n0 n0) v x y (fun i => ⟨S i, E i, ⟨w5.heap.size, i, none⟩⟩) (upto k) k _ (by exact ⟨HP.out.blk, HP.out.own⟩) (by omega) (by exact hsr) (by rw [upto_len]; omega)).mono ?_; rintro e w' ⟨rfl, gg, cap, hp9, -, ht9⟩; have hb8 : Below g w6 w' := hbr.drew.trans (touched_below ht9 (by exact hsr) (fun b hb => (HP.out.own.lt b hb).1)); have hb9 : Below w5.heap.size w5 w' := hb56.trans (hb8.mono (by omega)); have hsz9 : g + 1 ≤ w'.heap.size := Nat.le_trans hsr ht9.size; clear ht9))
              go_wp2_with fail
              go_roundw
              case rel => exact ⟨k + 1, _, by omega, by go_num, by rw [upto_succ]; exact hp9, hb8, hsz9⟩
              case measure => simp [intOf]; omega
            · obtain rfl : n = k := by omega
              have hlen : (((upto n).length : Int) != (n : Int)) = false := by rw [upto_len]; simp
              go_wp2_with fail
              refine (notedLen_any _ _ _ _ _ _ _ _ _ HP.out).mono ?_
              rintro e w7 ⟨rfl, hw⟩
              obtain rfl := hw.symm
              go_wp2_with fail
              go_loopw [21] (fun i wq => ∃ j : Nat, j ≤ n ∧ i = .int .i64 j ∧ Below wr.heap.size wr wq) (fun i _ => n - (intOf i).toNat)
              case atStart => exact ⟨0, Nat.zero_le _, rfl, Below.refl _ _⟩
              case round =>
                obtain ⟨j, hj, rfl, hbq⟩ := hrel
                have hb5q : Below w5.heap.size w5 wr := hb5r.trans (hbq.mono hb5r.size)
                have hb6q : Below g w6 wr := hbr.trans (hbq.mono (by omega))
                by_cases hlt2 : j < n
                · rcases K1.out with hx | ⟨q1, o1, rfl, s1⟩
                  · omega
                  rcases K2.out with hx | ⟨q2, o2, rfl, s2⟩
                  · omega
                  rcases K3.out with hx | ⟨q3, o3, rfl, s3⟩
                  · omega
                  rcases HC6.out with hx | ⟨q4, o4, hqo, s4⟩
                  · omega
                  obtain ⟨rfl, rfl⟩ : w5.heap.size = q4 ∧ 0 = o4 := by simpa using hqo
                  have x1 : wr.cell? ⟨q1, o1 + j, none⟩ = some (.int .i64 (S j)) := below_keeps hb5q (s1 j (by omega))
                  have x2 : wr.cell? ⟨q2, o2 + j, none⟩ = some (.int .i64 (E j)) := below_keeps hb5q (s2 j (by omega))
                  have x3 : wr.cell? ⟨q3, o3 + j, none⟩ = some (.string (X j)) := below_keeps hb5q (s3 j (by omega))
                  have x4 : wr.cell? ⟨w5.heap.size, j, none⟩ = some (.string (X j)) := (hb6q.cell (p := ⟨w5.heap.size, j, none⟩) hCg).trans (by have := s4 j hlt2; rwa [Nat.zero_add] at this)
                  have hk0 : (0 : Int) ≤ (j : Int) := by omega
                  have hk1 : (j : Int) < (n : Int) := by omega
                  have hk2 : (j : Int) < (n1 : Int) := by omega
                  have hk3 : (j : Int) < (n2 : Int) := by omega
                  have hk4 : (j : Int) < (n3 : Int) := by omega
                  have hprev := HP.out.below hbq
                  clear s1 s2 s3 s4 hqo
                  go_wp2_with fail
                  refine (notedAt_any _ _ _ _ _ _ _ _ _ _ _ hprev (upto_at hlt2) (by rw [upto_len]; omega)).mono ?_
                  rintro e w8 ⟨rfl, hb7⟩
                  have hb8 := hbq.trans (hb7.mono hbq.size)
                  have z1 : w8.cell? ⟨q1, o1 + j, none⟩ = some (.int .i64 (S j)) := below_keeps hb7 x1
                  have z2 : w8.cell? ⟨q2, o2 + j, none⟩ = some (.int .i64 (E j)) := below_keeps hb7 x2
                  have z3 : w8.cell? ⟨q3, o3 + j, none⟩ = some (.string (X j)) := below_keeps hb7 x3
                  have z4 : w8.cell? ⟨w5.heap.size, j, none⟩ = some (.string (X j)) := below_keeps hb7 x4
                  clear x1 x2 x3 x4 hprev hb7
                  have hpp := neq_ptr_self'
                  have f1 : (S j != S j) = false := by simp
                  have f2 : (E j != E j) = false := by simp
                  have f3 : ((X j).toList == (X j).toList) = true := by simp
                  go_wp2_with fail
                  go_quiet (fail)
                  go_wp2_with fail
                  go_roundw
                  case rel => exact ⟨j + 1, by omega, by go_num, below_drewN' hb8⟩
                  case measure => simp [intOf]; omega
                · obtain rfl : n = j := by omega
                  have hprev := HP.out.below hbq
                  have hn1' : (x == x) = true := by simp
                  have hn2' := fun (u : World) => Lib.run_eql_slice_nil (P := Try.prog) u 22 5 b0 n0 n0 0 0 Try.underlying22
                  have hn3' := fun (u : World) => Lib.run_eql_slice_nil (P := Try.prog) u 22 5 b4 n0 n0 0 0 Try.underlying22
                  have hbn : (b0.isNone == b4.isNone) = true := by
                    have := HN.out
                    cases b0 <;> cases b4 <;> simp_all
                  have hyy : (y == y) = true := by simp
                  go_wp2_with fail
                  refine (previousState_any _ _ _ _ _ _ _ _ _ _ _ hprev).mono ?_
                  rintro e w9 ⟨rfl, m9, rfl⟩
                  go_wp2_with fail
                  refine (sameBytes_any b0 b4 n0 n0 n0 B _ (by omega) (by exact K0.out.below (below_drewN' hb5q)) (by exact K4.out.below (below_drewN' hb5q))).mono ?_
                  rintro e w10 ⟨rfl, m10, rfl⟩
                  go_wp2_with fail
                  go_ret
                  exact ⟨rfl, below_drewN' (hbw5.trans (hb5q.mono hbw5.size))⟩

end Go.Proofs.Qxb6616402a
