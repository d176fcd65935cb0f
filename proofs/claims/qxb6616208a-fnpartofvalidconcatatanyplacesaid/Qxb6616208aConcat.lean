import Derived.Test.Qxb6616208aElems
import Derived.BigRegion
import Derived.WalkLawsBesides
namespace Go.Proofs.Qxb6616208a
open Go.RowKit
set_option linter.unusedVariables false

/-- A part number is honoured when neither it nor the total is nought and it is not beyond the total. -/
def chk (t p : Int) : Option Int := if t = 0 ∨ p = 0 ∨ t < p then none else some p
/-- The part number that an element gives, if it gives one. -/
def El.part (e : El) : Option Int :=
  if e.id = 0 ∧ e.l = 3 then chk (e.bs 1) (e.bs 2) else if e.id = 8 ∧ e.l = 4 then chk (e.bs 2) (e.bs 3) else none

def ConcPost (w : World) (E : El) (e : Ending) (w' : World) : Prop :=
  (∃ (r t p : Int) (b : Bool), e = .returned (.tuple #[.agg #[.int .i64 r, .int .i64 t, .int .i64 p], .bool b]) ∧ ((b = true ∧ E.part = some p) ∨ (b = false ∧ E.part = none ∧ p = 0))) ∧ Below w.heap.size w w'

theorem conc8_yes (b off c : Nat) (x0 x1 x2 : Int) (w : World) (E : El) (hE : E.part = some x2)
    (h0 : w.cell? ⟨b, off, none⟩ = some (.int .u8 x0)) (h1 : w.cell? ⟨b, off + 1, none⟩ = some (.int .u8 x1)) (h2 : w.cell? ⟨b, off + 2, none⟩ = some (.int .u8 x2))
    (r0 : 0 ≤ x0) (s0 : x0 ≤ 255) (r1 : 0 ≤ x1) (s1 : x1 ≤ 255) (r2 : 0 ≤ x2) (s2 : x2 ≤ 255) (d1 : (x1 == 0) = false) (d2 : (x2 == 0) = false) (d3 : decide (x1 < x2) = false) :
    Calls Try.prog 50 #[.agg #[.int .u8 0, .slice (some ⟨b, off, none⟩) 3 c]] w fun e w' => ConcPost w E e w' := by
  have hb : b < w.heap.size := World.block_lt_of_cell? w _ h0
  have hb1 : b < w.heap.size + 1 := by omega
  have hb2 : b < w.heap.size + 1 + 1 := by omega
  have hE' : Hid (E.part = some x2) := hE
  clear hE
  have d4 : x2 ≤ x1 := by simpa using d3
  go_enter Try.func50, Try.ntmps50
  go_wp2_with fail
  go_region
  all_goals go_wp2_with fail
  all_goals refine bodyPost_ret (v := .tuple #[.agg #[.int .i64 x0, .int .i64 x1, .int .i64 x2], .bool true]) (by simp [results, Try.results50, go_sem]) rfl ⟨⟨_, _, _, _, rfl, .inl ⟨rfl, hE'.out⟩⟩, ?_⟩
  all_goals exact ((((Below.refl _ _).alloc (Nat.le_refl _) _).alloc (by simp) _).alloc (by simp; omega) _).drew

theorem conc8_no1 (b off c : Nat) (x0 x1 x2 : Int) (w : World) (E : El) (hE : E.part = none)
    (h0 : w.cell? ⟨b, off, none⟩ = some (.int .u8 x0)) (h1 : w.cell? ⟨b, off + 1, none⟩ = some (.int .u8 x1)) (h2 : w.cell? ⟨b, off + 2, none⟩ = some (.int .u8 x2))
    (r0 : 0 ≤ x0) (s0 : x0 ≤ 255) (r1 : 0 ≤ x1) (s1 : x1 ≤ 255) (r2 : 0 ≤ x2) (s2 : x2 ≤ 255) (d1 : (x1 == 0) = true) :
    Calls Try.prog 50 #[.agg #[.int .u8 0, .slice (some ⟨b, off, none⟩) 3 c]] w fun e w' => ConcPost w E e w' := by
  have hb : b < w.heap.size := World.block_lt_of_cell? w _ h0
  have hb1 : b < w.heap.size + 1 := by omega
  have hb2 : b < w.heap.size + 1 + 1 := by omega
  have hE' : Hid (E.part = none) := hE
  clear hE
  
  go_enter Try.func50, Try.ntmps50
  go_wp2_with fail
  go_region
  all_goals go_wp2_with fail
  all_goals refine bodyPost_ret (v := .tuple #[.agg #[.int .i64 0, .int .i64 0, .int .i64 0], .bool false]) (by simp [results, Try.results50, go_sem]) rfl ⟨⟨_, _, _, _, rfl, .inr ⟨rfl, hE'.out, rfl⟩⟩, ?_⟩
  all_goals exact ((((Below.refl _ _).alloc (Nat.le_refl _) _).alloc (by simp) _).alloc (by simp; omega) _).drew

theorem conc8_no2 (b off c : Nat) (x0 x1 x2 : Int) (w : World) (E : El) (hE : E.part = none)
    (h0 : w.cell? ⟨b, off, none⟩ = some (.int .u8 x0)) (h1 : w.cell? ⟨b, off + 1, none⟩ = some (.int .u8 x1)) (h2 : w.cell? ⟨b, off + 2, none⟩ = some (.int .u8 x2))
    (r0 : 0 ≤ x0) (s0 : x0 ≤ 255) (r1 : 0 ≤ x1) (s1 : x1 ≤ 255) (r2 : 0 ≤ x2) (s2 : x2 ≤ 255) (d1 : (x1 == 0) = false) (d2 : (x2 == 0) = true) :
    Calls Try.prog 50 #[.agg #[.int .u8 0, .slice (some ⟨b, off, none⟩) 3 c]] w fun e w' => ConcPost w E e w' := by
  have hb : b < w.heap.size := World.block_lt_of_cell? w _ h0
  have hb1 : b < w.heap.size + 1 := by omega
  have hb2 : b < w.heap.size + 1 + 1 := by omega
  have hE' : Hid (E.part = none) := hE
  clear hE
  
  go_enter Try.func50, Try.ntmps50
  go_wp2_with fail
  go_region
  all_goals go_wp2_with fail
  all_goals refine bodyPost_ret (v := .tuple #[.agg #[.int .i64 0, .int .i64 0, .int .i64 0], .bool false]) (by simp [results, Try.results50, go_sem]) rfl ⟨⟨_, _, _, _, rfl, .inr ⟨rfl, hE'.out, rfl⟩⟩, ?_⟩
  all_goals exact ((((Below.refl _ _).alloc (Nat.le_refl _) _).alloc (by simp) _).alloc (by simp; omega) _).drew

theorem conc8_no3 (b off c : Nat) (x0 x1 x2 : Int) (w : World) (E : El) (hE : E.part = none)
    (h0 : w.cell? ⟨b, off, none⟩ = some (.int .u8 x0)) (h1 : w.cell? ⟨b, off + 1, none⟩ = some (.int .u8 x1)) (h2 : w.cell? ⟨b, off + 2, none⟩ = some (.int .u8 x2))
    (r0 : 0 ≤ x0) (s0 : x0 ≤ 255) (r1 : 0 ≤ x1) (s1 : x1 ≤ 255) (r2 : 0 ≤ x2) (s2 : x2 ≤ 255) (d1 : (x1 == 0) = false) (d2 : (x2 == 0) = false) (d3 : decide (x1 < x2) = true) :
    Calls Try.prog 50 #[.agg #[.int .u8 0, .slice (some ⟨b, off, none⟩) 3 c]] w fun e w' => ConcPost w E e w' := by
  have hb : b < w.heap.size := World.block_lt_of_cell? w _ h0
  have hb1 : b < w.heap.size + 1 := by omega
  have hb2 : b < w.heap.size + 1 + 1 := by omega
  have hE' : Hid (E.part = none) := hE
  clear hE
  have d4 : x1 < x2 := by simpa using d3
  go_enter Try.func50, Try.ntmps50
  go_wp2_with fail
  go_region
  all_goals go_wp2_with fail
  all_goals refine bodyPost_ret (v := .tuple #[.agg #[.int .i64 0, .int .i64 0, .int .i64 0], .bool false]) (by simp [results, Try.results50, go_sem]) rfl ⟨⟨_, _, _, _, rfl, .inr ⟨rfl, hE'.out, rfl⟩⟩, ?_⟩
  all_goals exact ((((Below.refl _ _).alloc (Nat.le_refl _) _).alloc (by simp) _).alloc (by simp; omega) _).drew

theorem conc16_yes (b off c : Nat) (x0 x3 x1 x2 : Int) (w : World) (E : El) (hE : E.part = some x2)
    (h0 : w.cell? ⟨b, off, none⟩ = some (.int .u8 x0)) (h3 : w.cell? ⟨b, off + 1, none⟩ = some (.int .u8 x3)) (h1 : w.cell? ⟨b, off + 2, none⟩ = some (.int .u8 x1)) (h2 : w.cell? ⟨b, off + 3, none⟩ = some (.int .u8 x2))
    (r0 : 0 ≤ x0) (s0 : x0 ≤ 255) (r3 : 0 ≤ x3) (s3 : x3 ≤ 255) (r1 : 0 ≤ x1) (s1 : x1 ≤ 255) (r2 : 0 ≤ x2) (s2 : x2 ≤ 255) (d1 : (x1 == 0) = false) (d2 : (x2 == 0) = false) (d3 : decide (x1 < x2) = false) :
    Calls Try.prog 50 #[.agg #[.int .u8 8, .slice (some ⟨b, off, none⟩) 4 c]] w fun e w' => ConcPost w E e w' := by
  have hb : b < w.heap.size := World.block_lt_of_cell? w _ h0
  have hb1 : b < w.heap.size + 1 := by omega
  have hb2 : b < w.heap.size + 1 + 1 := by omega
  have hE' : Hid (E.part = some x2) := hE
  clear hE
  have d4 : x2 ≤ x1 := by simpa using d3
  go_enter Try.func50, Try.ntmps50
  go_wp2_with fail
  go_region
  all_goals go_wp2_with fail
  all_goals refine bodyPost_ret (v := .tuple #[.agg #[.int .i64 (bits .or .i64 (x0 * 256) x3), .int .i64 x1, .int .i64 x2], .bool true]) (by simp [results, Try.results50, go_sem]) rfl ⟨⟨_, _, _, _, rfl, .inl ⟨rfl, hE'.out⟩⟩, ?_⟩
  all_goals exact ((((Below.refl _ _).alloc (Nat.le_refl _) _).alloc (by simp) _).alloc (by simp; omega) _).drew

theorem conc16_no1 (b off c : Nat) (x0 x3 x1 x2 : Int) (w : World) (E : El) (hE : E.part = none)
    (h0 : w.cell? ⟨b, off, none⟩ = some (.int .u8 x0)) (h3 : w.cell? ⟨b, off + 1, none⟩ = some (.int .u8 x3)) (h1 : w.cell? ⟨b, off + 2, none⟩ = some (.int .u8 x1)) (h2 : w.cell? ⟨b, off + 3, none⟩ = some (.int .u8 x2))
    (r0 : 0 ≤ x0) (s0 : x0 ≤ 255) (r3 : 0 ≤ x3) (s3 : x3 ≤ 255) (r1 : 0 ≤ x1) (s1 : x1 ≤ 255) (r2 : 0 ≤ x2) (s2 : x2 ≤ 255) (d1 : (x1 == 0) = true) :
    Calls Try.prog 50 #[.agg #[.int .u8 8, .slice (some ⟨b, off, none⟩) 4 c]] w fun e w' => ConcPost w E e w' := by
  have hb : b < w.heap.size := World.block_lt_of_cell? w _ h0
  have hb1 : b < w.heap.size + 1 := by omega
  have hb2 : b < w.heap.size + 1 + 1 := by omega
  have hE' : Hid (E.part = none) := hE
  clear hE
  
  go_enter Try.func50, Try.ntmps50
  go_wp2_with fail
  go_region
  all_goals go_wp2_with fail
  all_goals refine bodyPost_ret (v := .tuple #[.agg #[.int .i64 0, .int .i64 0, .int .i64 0], .bool false]) (by simp [results, Try.results50, go_sem]) rfl ⟨⟨_, _, _, _, rfl, .inr ⟨rfl, hE'.out, rfl⟩⟩, ?_⟩
  all_goals exact ((((Below.refl _ _).alloc (Nat.le_refl _) _).alloc (by simp) _).alloc (by simp; omega) _).drew

theorem conc16_no2 (b off c : Nat) (x0 x3 x1 x2 : Int) (w : World) (E : El) (hE : E.part = none)
    (h0 : w.cell? ⟨b, off, none⟩ = some (.int .u8 x0)) (h3 : w.cell? ⟨b, off + 1, none⟩ = some (.int .u8 x3)) (h1 : w.cell? ⟨b, off + 2, none⟩ = some (.int .u8 x1)) (h2 : w.cell? ⟨b, off + 3, none⟩ = some (.int .u8 x2))
    (r0 : 0 ≤ x0) (s0 : x0 ≤ 255) (r3 : 0 ≤ x3) (s3 : x3 ≤ 255) (r1 : 0 ≤ x1) (s1 : x1 ≤ 255) (r2 : 0 ≤ x2) (s2 : x2 ≤ 255) (d1 : (x1 == 0) = false) (d2 : (x2 == 0) = true) :
    Calls Try.prog 50 #[.agg #[.int .u8 8, .slice (some ⟨b, off, none⟩) 4 c]] w fun e w' => ConcPost w E e w' := by
  have hb : b < w.heap.size := World.block_lt_of_cell? w _ h0
  have hb1 : b < w.heap.size + 1 := by omega
  have hb2 : b < w.heap.size + 1 + 1 := by omega
  have hE' : Hid (E.part = none) := hE
  clear hE
  
  go_enter Try.func50, Try.ntmps50
  go_wp2_with fail
  go_region
  all_goals go_wp2_with fail
  all_goals refine bodyPost_ret (v := .tuple #[.agg #[.int .i64 0, .int .i64 0, .int .i64 0], .bool false]) (by simp [results, Try.results50, go_sem]) rfl ⟨⟨_, _, _, _, rfl, .inr ⟨rfl, hE'.out, rfl⟩⟩, ?_⟩
  all_goals exact ((((Below.refl _ _).alloc (Nat.le_refl _) _).alloc (by simp) _).alloc (by simp; omega) _).drew

theorem conc16_no3 (b off c : Nat) (x0 x3 x1 x2 : Int) (w : World) (E : El) (hE : E.part = none)
    (h0 : w.cell? ⟨b, off, none⟩ = some (.int .u8 x0)) (h3 : w.cell? ⟨b, off + 1, none⟩ = some (.int .u8 x3)) (h1 : w.cell? ⟨b, off + 2, none⟩ = some (.int .u8 x1)) (h2 : w.cell? ⟨b, off + 3, none⟩ = some (.int .u8 x2))
    (r0 : 0 ≤ x0) (s0 : x0 ≤ 255) (r3 : 0 ≤ x3) (s3 : x3 ≤ 255) (r1 : 0 ≤ x1) (s1 : x1 ≤ 255) (r2 : 0 ≤ x2) (s2 : x2 ≤ 255) (d1 : (x1 == 0) = false) (d2 : (x2 == 0) = false) (d3 : decide (x1 < x2) = true) :
    Calls Try.prog 50 #[.agg #[.int .u8 8, .slice (some ⟨b, off, none⟩) 4 c]] w fun e w' => ConcPost w E e w' := by
  have hb : b < w.heap.size := World.block_lt_of_cell? w _ h0
  have hb1 : b < w.heap.size + 1 := by omega
  have hb2 : b < w.heap.size + 1 + 1 := by omega
  have hE' : Hid (E.part = none) := hE
  clear hE
  have d4 : x1 < x2 := by simpa using d3
  go_enter Try.func50, Try.ntmps50
  go_wp2_with fail
  go_region
  all_goals go_wp2_with fail
  all_goals refine bodyPost_ret (v := .tuple #[.agg #[.int .i64 0, .int .i64 0, .int .i64 0], .bool false]) (by simp [results, Try.results50, go_sem]) rfl ⟨⟨_, _, _, _, rfl, .inr ⟨rfl, hE'.out, rfl⟩⟩, ?_⟩
  all_goals exact ((((Below.refl _ _).alloc (Nat.le_refl _) _).alloc (by simp) _).alloc (by simp; omega) _).drew

/-- Neither kind of element. -/
theorem conc_none (x : Int) (a : Option Addr) (l c : Nat) (w : World) (E : El) (hE : E.part = none) (hl : l ≤ maxLen)
    (d : ((x == 0) = false ∧ (x == 8) = false) ∨ ((x == 0) = true ∧ (x == 8) = false ∧ ((l : Int) == 3) = false) ∨ ((x == 0) = false ∧ (x == 8) = true ∧ ((l : Int) == 4) = false)) :
    Calls Try.prog 50 #[.agg #[.int .u8 x, .slice a l c]] w fun e w' => ConcPost w E e w' := by
  have hE' : Hid (E.part = none) := hE
  clear hE
  unfold maxLen at hl
  rcases d with ⟨d1, d2⟩ | ⟨d1, d2, d3⟩ | ⟨d1, d2, d3⟩
  all_goals
    go_enter Try.func50, Try.ntmps50
    go_wp2_with fail
    refine bodyPost_ret (v := .tuple #[.agg #[.int .i64 0, .int .i64 0, .int .i64 0], .bool false]) (by simp [results, Try.results50, go_sem]) rfl ⟨⟨_, _, _, _, rfl, .inr ⟨rfl, hE'.out, rfl⟩⟩, ?_⟩
    exact (((Below.refl _ _).alloc (Nat.le_refl _) _).alloc (by simp) _).alloc (by simp; omega) _

theorem chk_none {t p : Int} (h : t = 0 ∨ p = 0 ∨ t < p) : chk t p = none := by simp [chk, h]
theorem chk_some {t p : Int} (h1 : t ≠ 0) (h2 : p ≠ 0) (h3 : p ≤ t) : chk t p = some p := by
  unfold chk
  rw [if_neg (by omega)]

/-- (Element).Concat: what the element gives. -/
theorem concat_any (E : El) (w : World) (h : E.ok w) : Calls Try.prog 50 #[.agg #[.int .u8 E.id, .slice E.a E.l E.c]] w fun e w' => ConcPost w E e w' := by
  obtain ⟨i0, i1, hl, hc, hbs⟩ := h
  by_cases k8 : E.id = 0 ∧ E.l = 3
  · have hp : E.part = chk (E.bs 1) (E.bs 2) := by simp [El.part, k8]
    obtain ⟨kid, kl⟩ := k8
    rcases hc with hc | ⟨b, off, ha, hcell⟩
    · omega
    rw [kl] at hcell hbs
    have c0 := hcell 0 (by omega)
    have c1 := hcell 1 (by omega)
    have c2 := hcell 2 (by omega)
    have b0 := hbs 0 (by omega)
    have b1 := hbs 1 (by omega)
    have b2 := hbs 2 (by omega)
    rw [Nat.add_zero] at c0
    rw [kid, kl, ha]
    by_cases e1 : E.bs 1 = 0
    · exact conc8_no1 b off E.c _ _ _ w E (by rw [hp]; exact chk_none (.inl e1)) c0 c1 c2 b0.1 b0.2 b1.1 b1.2 b2.1 b2.2 (by simp [e1])
    by_cases e2 : E.bs 2 = 0
    · exact conc8_no2 b off E.c _ _ _ w E (by rw [hp]; exact chk_none (.inr (.inl e2))) c0 c1 c2 b0.1 b0.2 b1.1 b1.2 b2.1 b2.2 (by simp [e1]) (by simp [e2])
    by_cases e3 : E.bs 1 < E.bs 2
    · exact conc8_no3 b off E.c _ _ _ w E (by rw [hp]; exact chk_none (.inr (.inr e3))) c0 c1 c2 b0.1 b0.2 b1.1 b1.2 b2.1 b2.2 (by simp [e1]) (by simp [e2]) (by simp [e3])
    · exact conc8_yes b off E.c _ _ _ w E (by rw [hp]; exact chk_some e1 e2 (by omega)) c0 c1 c2 b0.1 b0.2 b1.1 b1.2 b2.1 b2.2 (by simp [e1]) (by simp [e2]) (by simp; omega)
  by_cases k16 : E.id = 8 ∧ E.l = 4
  · have hp : E.part = chk (E.bs 2) (E.bs 3) := by simp [El.part, k16]
    obtain ⟨kid, kl⟩ := k16
    rcases hc with hc | ⟨b, off, ha, hcell⟩
    · omega
    rw [kl] at hcell hbs
    have c0 := hcell 0 (by omega)
    have c3 := hcell 1 (by omega)
    have c1 := hcell 2 (by omega)
    have c2 := hcell 3 (by omega)
    have b0 := hbs 0 (by omega)
    have b3 := hbs 1 (by omega)
    have b1 := hbs 2 (by omega)
    have b2 := hbs 3 (by omega)
    rw [Nat.add_zero] at c0
    rw [kid, kl, ha]
    by_cases e1 : E.bs 2 = 0
    · exact conc16_no1 b off E.c _ _ _ _ w E (by rw [hp]; exact chk_none (.inl e1)) c0 c3 c1 c2 b0.1 b0.2 b3.1 b3.2 b1.1 b1.2 b2.1 b2.2 (by simp [e1])
    by_cases e2 : E.bs 3 = 0
    · exact conc16_no2 b off E.c _ _ _ _ w E (by rw [hp]; exact chk_none (.inr (.inl e2))) c0 c3 c1 c2 b0.1 b0.2 b3.1 b3.2 b1.1 b1.2 b2.1 b2.2 (by simp [e1]) (by simp [e2])
    by_cases e3 : E.bs 2 < E.bs 3
    · exact conc16_no3 b off E.c _ _ _ _ w E (by rw [hp]; exact chk_none (.inr (.inr e3))) c0 c3 c1 c2 b0.1 b0.2 b3.1 b3.2 b1.1 b1.2 b2.1 b2.2 (by simp [e1]) (by simp [e2]) (by simp [e3])
    · exact conc16_yes b off E.c _ _ _ _ w E (by rw [hp]; exact chk_some e1 e2 (by omega)) c0 c3 c1 c2 b0.1 b0.2 b3.1 b3.2 b1.1 b1.2 b2.1 b2.2 (by simp [e1]) (by simp [e2]) (by simp; omega)
  · refine conc_none E.id E.a E.l E.c w E (by simp only [El.part, k8, k16, if_false]) hl ?_
    by_cases j0 : E.id = 0
    · exact .inr (.inl ⟨by simp [j0], by simp [j0], by simp; omega⟩)
    · by_cases j8 : E.id = 8
      · exact .inr (.inr ⟨by simp [j8], by simp [j8], by simp; omega⟩)
      · exact .inl ⟨by simp [j0], by simp [j8]⟩

end Go.Proofs.Qxb6616208a
