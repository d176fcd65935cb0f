import Derived.Test.Qxb6616208aPart
import Derived.BigQuiet
namespace Go.Proofs.Qxb6616208a
open Go.RowKit
set_option linter.unusedVariables false

def ZConcPost (w : World) (E : El) (e : Ending) (w' : World) : Prop :=
  (∃ (r t p : Int) (b : Bool), e = .returned (.tuple #[.int .i64 r, .int .i64 t, .int .i64 p, .bool b]) ∧ ((b = true ∧ E.part = some p) ∨ (b = false ∧ E.part = none))) ∧ Below w.heap.size w w'

theorem zconc8_yes (b off c : Nat) (x0 x1 x2 : Int) (w : World) (E : El) (hE : E.part = some x2)
    (h0 : w.cell? ⟨b, off, none⟩ = some (.int .u8 x0)) (h1 : w.cell? ⟨b, off + 1, none⟩ = some (.int .u8 x1)) (h2 : w.cell? ⟨b, off + 2, none⟩ = some (.int .u8 x2))
    (r0 : 0 ≤ x0) (s0 : x0 ≤ 255) (r1 : 0 ≤ x1) (s1 : x1 ≤ 255) (r2 : 0 ≤ x2) (s2 : x2 ≤ 255) (d1 : decide (x1 < 1) = false) (d2 : decide (x2 < 1) = false) (d3 : decide (x1 < x2) = false) :
    Calls Try.prog 15 #[.agg #[.int .u8 0, .slice (some ⟨b, off, none⟩) 3 c]] w fun e w' => ZConcPost w E e w' := by
  have hb : b < w.heap.size := World.block_lt_of_cell? w _ h0
  have hE' : Hid (E.part = some x2) := hE
  clear hE
  go_enter Try.func15, Try.ntmps15
  go_wp2_with fail
  all_goals refine bodyPost_ret (v := .tuple #[.int .i64 x0, .int .i64 x1, .int .i64 x2, .bool true]) (by simp [results, Try.results15, go_sem]) rfl ⟨⟨_, _, _, _, rfl, .inl ⟨rfl, hE'.out⟩⟩, ?_⟩
  all_goals exact (Below.refl _ _).alloc (Nat.le_refl _) _

theorem zconc8_no1 (b off c : Nat) (x0 x1 x2 : Int) (w : World) (E : El) (hE : E.part = none)
    (h0 : w.cell? ⟨b, off, none⟩ = some (.int .u8 x0)) (h1 : w.cell? ⟨b, off + 1, none⟩ = some (.int .u8 x1)) (h2 : w.cell? ⟨b, off + 2, none⟩ = some (.int .u8 x2))
    (r0 : 0 ≤ x0) (s0 : x0 ≤ 255) (r1 : 0 ≤ x1) (s1 : x1 ≤ 255) (r2 : 0 ≤ x2) (s2 : x2 ≤ 255) (d1 : decide (x1 < 1) = true) :
    Calls Try.prog 15 #[.agg #[.int .u8 0, .slice (some ⟨b, off, none⟩) 3 c]] w fun e w' => ZConcPost w E e w' := by
  have hb : b < w.heap.size := World.block_lt_of_cell? w _ h0
  have hE' : Hid (E.part = none) := hE
  clear hE
  go_enter Try.func15, Try.ntmps15
  go_wp2_with fail
  all_goals refine bodyPost_ret (v := .tuple #[.int .i64 0, .int .i64 0, .int .i64 0, .bool false]) (by simp [results, Try.results15, go_sem]) rfl ⟨⟨_, _, _, _, rfl, .inr ⟨rfl, hE'.out⟩⟩, ?_⟩
  all_goals exact (Below.refl _ _).alloc (Nat.le_refl _) _

theorem zconc8_no2 (b off c : Nat) (x0 x1 x2 : Int) (w : World) (E : El) (hE : E.part = none)
    (h0 : w.cell? ⟨b, off, none⟩ = some (.int .u8 x0)) (h1 : w.cell? ⟨b, off + 1, none⟩ = some (.int .u8 x1)) (h2 : w.cell? ⟨b, off + 2, none⟩ = some (.int .u8 x2))
    (r0 : 0 ≤ x0) (s0 : x0 ≤ 255) (r1 : 0 ≤ x1) (s1 : x1 ≤ 255) (r2 : 0 ≤ x2) (s2 : x2 ≤ 255) (d1 : decide (x1 < 1) = false) (d2 : decide (x2 < 1) = true) :
    Calls Try.prog 15 #[.agg #[.int .u8 0, .slice (some ⟨b, off, none⟩) 3 c]] w fun e w' => ZConcPost w E e w' := by
  have hb : b < w.heap.size := World.block_lt_of_cell? w _ h0
  have hE' : Hid (E.part = none) := hE
  clear hE
  go_enter Try.func15, Try.ntmps15
  go_wp2_with fail
  all_goals refine bodyPost_ret (v := .tuple #[.int .i64 0, .int .i64 0, .int .i64 0, .bool false]) (by simp [results, Try.results15, go_sem]) rfl ⟨⟨_, _, _, _, rfl, .inr ⟨rfl, hE'.out⟩⟩, ?_⟩
  all_goals exact (Below.refl _ _).alloc (Nat.le_refl _) _

theorem zconc8_no3 (b off c : Nat) (x0 x1 x2 : Int) (w : World) (E : El) (hE : E.part = none)
    (h0 : w.cell? ⟨b, off, none⟩ = some (.int .u8 x0)) (h1 : w.cell? ⟨b, off + 1, none⟩ = some (.int .u8 x1)) (h2 : w.cell? ⟨b, off + 2, none⟩ = some (.int .u8 x2))
    (r0 : 0 ≤ x0) (s0 : x0 ≤ 255) (r1 : 0 ≤ x1) (s1 : x1 ≤ 255) (r2 : 0 ≤ x2) (s2 : x2 ≤ 255) (d1 : decide (x1 < 1) = false) (d2 : decide (x2 < 1) = false) (d3 : decide (x1 < x2) = true) :
    Calls Try.prog 15 #[.agg #[.int .u8 0, .slice (some ⟨b, off, none⟩) 3 c]] w fun e w' => ZConcPost w E e w' := by
  have hb : b < w.heap.size := World.block_lt_of_cell? w _ h0
  have hE' : Hid (E.part = none) := hE
  clear hE
  go_enter Try.func15, Try.ntmps15
  go_wp2_with fail
  all_goals refine bodyPost_ret (v := .tuple #[.int .i64 0, .int .i64 0, .int .i64 0, .bool false]) (by simp [results, Try.results15, go_sem]) rfl ⟨⟨_, _, _, _, rfl, .inr ⟨rfl, hE'.out⟩⟩, ?_⟩
  all_goals exact (Below.refl _ _).alloc (Nat.le_refl _) _

theorem zconc16_yes (b off c : Nat) (x0 x3 x1 x2 : Int) (w : World) (E : El) (hE : E.part = some x2)
    (h0 : w.cell? ⟨b, off, none⟩ = some (.int .u8 x0)) (h3 : w.cell? ⟨b, off + 1, none⟩ = some (.int .u8 x3)) (h1 : w.cell? ⟨b, off + 2, none⟩ = some (.int .u8 x1)) (h2 : w.cell? ⟨b, off + 3, none⟩ = some (.int .u8 x2))
    (r0 : 0 ≤ x0) (s0 : x0 ≤ 255) (r3 : 0 ≤ x3) (s3 : x3 ≤ 255) (r1 : 0 ≤ x1) (s1 : x1 ≤ 255) (r2 : 0 ≤ x2) (s2 : x2 ≤ 255) (d1 : decide (x1 < 1) = false) (d2 : decide (x2 < 1) = false) (d3 : decide (x1 < x2) = false) :
    Calls Try.prog 15 #[.agg #[.int .u8 8, .slice (some ⟨b, off, none⟩) 4 c]] w fun e w' => ZConcPost w E e w' := by
  have hb : b < w.heap.size := World.block_lt_of_cell? w _ h0
  have hE' : Hid (E.part = some x2) := hE
  clear hE
  go_enter Try.func15, Try.ntmps15
  go_wp2_with fail
  go_region
  all_goals go_wp2_with fail
  all_goals refine bodyPost_ret (v := .tuple #[.int .i64 (x0 * 256 + x3), .int .i64 x1, .int .i64 x2, .bool true]) (by simp [results, Try.results15, go_sem]) rfl ⟨⟨_, _, _, _, rfl, .inl ⟨rfl, hE'.out⟩⟩, ?_⟩
  all_goals exact ((Below.refl _ _).alloc (Nat.le_refl _) _).drew

theorem zconc16_no1 (b off c : Nat) (x0 x3 x1 x2 : Int) (w : World) (E : El) (hE : E.part = none)
    (h0 : w.cell? ⟨b, off, none⟩ = some (.int .u8 x0)) (h3 : w.cell? ⟨b, off + 1, none⟩ = some (.int .u8 x3)) (h1 : w.cell? ⟨b, off + 2, none⟩ = some (.int .u8 x1)) (h2 : w.cell? ⟨b, off + 3, none⟩ = some (.int .u8 x2))
    (r0 : 0 ≤ x0) (s0 : x0 ≤ 255) (r3 : 0 ≤ x3) (s3 : x3 ≤ 255) (r1 : 0 ≤ x1) (s1 : x1 ≤ 255) (r2 : 0 ≤ x2) (s2 : x2 ≤ 255) (d1 : decide (x1 < 1) = true) :
    Calls Try.prog 15 #[.agg #[.int .u8 8, .slice (some ⟨b, off, none⟩) 4 c]] w fun e w' => ZConcPost w E e w' := by
  have hb : b < w.heap.size := World.block_lt_of_cell? w _ h0
  have hE' : Hid (E.part = none) := hE
  clear hE
  go_enter Try.func15, Try.ntmps15
  go_wp2_with fail
  go_region
  all_goals go_wp2_with fail
  all_goals refine bodyPost_ret (v := .tuple #[.int .i64 0, .int .i64 0, .int .i64 0, .bool false]) (by simp [results, Try.results15, go_sem]) rfl ⟨⟨_, _, _, _, rfl, .inr ⟨rfl, hE'.out⟩⟩, ?_⟩
  all_goals exact ((Below.refl _ _).alloc (Nat.le_refl _) _).drew

theorem zconc16_no2 (b off c : Nat) (x0 x3 x1 x2 : Int) (w : World) (E : El) (hE : E.part = none)
    (h0 : w.cell? ⟨b, off, none⟩ = some (.int .u8 x0)) (h3 : w.cell? ⟨b, off + 1, none⟩ = some (.int .u8 x3)) (h1 : w.cell? ⟨b, off + 2, none⟩ = some (.int .u8 x1)) (h2 : w.cell? ⟨b, off + 3, none⟩ = some (.int .u8 x2))
    (r0 : 0 ≤ x0) (s0 : x0 ≤ 255) (r3 : 0 ≤ x3) (s3 : x3 ≤ 255) (r1 : 0 ≤ x1) (s1 : x1 ≤ 255) (r2 : 0 ≤ x2) (s2 : x2 ≤ 255) (d1 : decide (x1 < 1) = false) (d2 : decide (x2 < 1) = true) :
    Calls Try.prog 15 #[.agg #[.int .u8 8, .slice (some ⟨b, off, none⟩) 4 c]] w fun e w' => ZConcPost w E e w' := by
  have hb : b < w.heap.size := World.block_lt_of_cell? w _ h0
  have hE' : Hid (E.part = none) := hE
  clear hE
  go_enter Try.func15, Try.ntmps15
  go_wp2_with fail
  go_region
  all_goals go_wp2_with fail
  all_goals refine bodyPost_ret (v := .tuple #[.int .i64 0, .int .i64 0, .int .i64 0, .bool false]) (by simp [results, Try.results15, go_sem]) rfl ⟨⟨_, _, _, _, rfl, .inr ⟨rfl, hE'.out⟩⟩, ?_⟩
  all_goals exact ((Below.refl _ _).alloc (Nat.le_refl _) _).drew

theorem zconc16_no3 (b off c : Nat) (x0 x3 x1 x2 : Int) (w : World) (E : El) (hE : E.part = none)
    (h0 : w.cell? ⟨b, off, none⟩ = some (.int .u8 x0)) (h3 : w.cell? ⟨b, off + 1, none⟩ = some (.int .u8 x3)) (h1 : w.cell? ⟨b, off + 2, none⟩ = some (.int .u8 x1)) (h2 : w.cell? ⟨b, off + 3, none⟩ = some (.int .u8 x2))
    (r0 : 0 ≤ x0) (s0 : x0 ≤ 255) (r3 : 0 ≤ x3) (s3 : x3 ≤ 255) (r1 : 0 ≤ x1) (s1 : x1 ≤ 255) (r2 : 0 ≤ x2) (s2 : x2 ≤ 255) (d1 : decide (x1 < 1) = false) (d2 : decide (x2 < 1) = false) (d3 : decide (x1 < x2) = true) :
    Calls Try.prog 15 #[.agg #[.int .u8 8, .slice (some ⟨b, off, none⟩) 4 c]] w fun e w' => ZConcPost w E e w' := by
  have hb : b < w.heap.size := World.block_lt_of_cell? w _ h0
  have hE' : Hid (E.part = none) := hE
  clear hE
  go_enter Try.func15, Try.ntmps15
  go_wp2_with fail
  go_region
  all_goals go_wp2_with fail
  all_goals refine bodyPost_ret (v := .tuple #[.int .i64 0, .int .i64 0, .int .i64 0, .bool false]) (by simp [results, Try.results15, go_sem]) rfl ⟨⟨_, _, _, _, rfl, .inr ⟨rfl, hE'.out⟩⟩, ?_⟩
  all_goals exact ((Below.refl _ _).alloc (Nat.le_refl _) _).drew

theorem zconc_none (x : Int) (a : Option Addr) (l c : Nat) (w : World) (E : El) (hE : E.part = none) (hl : l ≤ maxLen)
    (d : ((x == 0) = false ∧ (x == 8) = false) ∨ ((x == 0) = true ∧ (x == 8) = false ∧ ((l : Int) == 3) = false) ∨ ((x == 0) = false ∧ (x == 8) = true ∧ ((l : Int) == 4) = false)) :
    Calls Try.prog 15 #[.agg #[.int .u8 x, .slice a l c]] w fun e w' => ZConcPost w E e w' := by
  have hE' : Hid (E.part = none) := hE
  clear hE
  unfold maxLen at hl
  rcases d with ⟨d1, d2⟩ | ⟨d1, d2, d3⟩ | ⟨d1, d2, d3⟩
  all_goals
    go_enter Try.func15, Try.ntmps15
    go_wp2_with fail
    refine bodyPost_ret (v := .tuple #[.int .i64 0, .int .i64 0, .int .i64 0, .bool false]) (by simp [results, Try.results15, go_sem]) rfl ⟨⟨_, _, _, _, rfl, .inr ⟨rfl, hE'.out⟩⟩, ?_⟩
    exact (Below.refl _ _).alloc (Nat.le_refl _) _

/-- zzConcat: what the element gives. -/
theorem zconcat_any (E : El) (w : World) (h : E.ok w) : Calls Try.prog 15 #[.agg #[.int .u8 E.id, .slice E.a E.l E.c]] w fun e w' => ZConcPost w E e w' := by
  obtain ⟨i0, i1, hl, hc, hbs⟩ := h
  by_cases k8 : E.id = 0 ∧ E.l = 3
  · have hp : E.part = chk (E.bs 1) (E.bs 2) := by simp [El.part, k8]
    obtain ⟨kid, kl⟩ := k8
    rcases hc with hc | ⟨b, off, ha, hcell⟩
    · omega
    rw [kl] at hcell hbs
    have c0 := hcell 0 (by omega)
    have c1 := hcell 1 (by omega)
    have c2 := hcell 2 (by omega)
    have b0 := hbs 0 (by omega)
    have b1 := hbs 1 (by omega)
    have b2 := hbs 2 (by omega)
    rw [Nat.add_zero] at c0
    rw [kid, kl, ha]
    by_cases e1 : E.bs 1 = 0
    · exact zconc8_no1 b off E.c _ _ _ w E (by rw [hp]; exact chk_none (.inl e1)) c0 c1 c2 b0.1 b0.2 b1.1 b1.2 b2.1 b2.2 (decide_eq_true (by omega))
    by_cases e2 : E.bs 2 = 0
    · exact zconc8_no2 b off E.c _ _ _ w E (by rw [hp]; exact chk_none (.inr (.inl e2))) c0 c1 c2 b0.1 b0.2 b1.1 b1.2 b2.1 b2.2 (decide_eq_false (by omega)) (decide_eq_true (by omega))
    by_cases e3 : E.bs 1 < E.bs 2
    · exact zconc8_no3 b off E.c _ _ _ w E (by rw [hp]; exact chk_none (.inr (.inr e3))) c0 c1 c2 b0.1 b0.2 b1.1 b1.2 b2.1 b2.2 (decide_eq_false (by omega)) (decide_eq_false (by omega)) (decide_eq_true e3)
    · exact zconc8_yes b off E.c _ _ _ w E (by rw [hp]; exact chk_some e1 e2 (by omega)) c0 c1 c2 b0.1 b0.2 b1.1 b1.2 b2.1 b2.2 (decide_eq_false (by omega)) (decide_eq_false (by omega)) (decide_eq_false (by omega))
  by_cases k16 : E.id = 8 ∧ E.l = 4
  · have hp : E.part = chk (E.bs 2) (E.bs 3) := by simp [El.part, k16]
    obtain ⟨kid, kl⟩ := k16
    rcases hc with hc | ⟨b, off, ha, hcell⟩
    · omega
    rw [kl] at hcell hbs
    have c0 := hcell 0 (by omega)
    have c3 := hcell 1 (by omega)
    have c1 := hcell 2 (by omega)
    have c2 := hcell 3 (by omega)
    have b0 := hbs 0 (by omega)
    have b3 := hbs 1 (by omega)
    have b1 := hbs 2 (by omega)
    have b2 := hbs 3 (by omega)
    rw [Nat.add_zero] at c0
    rw [kid, kl, ha]
    by_cases e1 : E.bs 2 = 0
    · exact zconc16_no1 b off E.c _ _ _ _ w E (by rw [hp]; exact chk_none (.inl e1)) c0 c3 c1 c2 b0.1 b0.2 b3.1 b3.2 b1.1 b1.2 b2.1 b2.2 (decide_eq_true (by omega))
    by_cases e2 : E.bs 3 = 0
    · exact zconc16_no2 b off E.c _ _ _ _ w E (by rw [hp]; exact chk_none (.inr (.inl e2))) c0 c3 c1 c2 b0.1 b0.2 b3.1 b3.2 b1.1 b1.2 b2.1 b2.2 (decide_eq_false (by omega)) (decide_eq_true (by omega))
    by_cases e3 : E.bs 2 < E.bs 3
    · exact zconc16_no3 b off E.c _ _ _ _ w E (by rw [hp]; exact chk_none (.inr (.inr e3))) c0 c3 c1 c2 b0.1 b0.2 b3.1 b3.2 b1.1 b1.2 b2.1 b2.2 (decide_eq_false (by omega)) (decide_eq_false (by omega)) (decide_eq_true e3)
    · exact zconc16_yes b off E.c _ _ _ _ w E (by rw [hp]; exact chk_some e1 e2 (by omega)) c0 c3 c1 c2 b0.1 b0.2 b3.1 b3.2 b1.1 b1.2 b2.1 b2.2 (decide_eq_false (by omega)) (decide_eq_false (by omega)) (decide_eq_false (by omega))
  · refine zconc_none E.id E.a E.l E.c w E (by simp only [El.part, k8, k16, if_false]) hl ?_
    by_cases j0 : E.id = 0
    · exact .inr (.inl ⟨by simp [j0], by simp [j0], by simp; omega⟩)
    · by_cases j8 : E.id = 8
      · exact .inr (.inr ⟨by simp [j8], by simp [j8], by simp; omega⟩)
      · exact .inl ⟨by simp [j0], by simp [j8]⟩

end Go.Proofs.Qxb6616208a
