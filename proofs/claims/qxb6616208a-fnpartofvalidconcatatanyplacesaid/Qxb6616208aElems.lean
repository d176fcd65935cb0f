import Derived.Test.Qxb6616208aBase
import Derived.WalkSpells
import Derived.Deep.OwnRows
import Derived.Deep.RegionHeld3
import Derived.Deep.DrawnRows
namespace Go.Proofs.Qxb6616208a
open Go.RowKit
set_option linter.unusedVariables false
attribute [local go_sem ↓] Go.wp_at_zero Go.wp_at_succ

theorem Try.info27 : (Try.prog.info? 27).map (fun i => (i.zero, i.size, i.bytes)) = some (some (.agg #[.int .u8 0, .slice none 0 0]), 2, 32) := by kernel_rfl

/-- 'make([]Element, n)' in whatever world. -/
theorem run_make_elems (kl kc : IntKind) (n : Nat) (hn : n ≤ 1048576) (w : World) :
    (Instr.makeSlice 28 (.int kl (n : Int)) (.int kc (n : Int))).run Try.prog w = .ok (.slice (some ⟨w.heap.size, 0, none⟩) n n) (w.alloc (.cells (madeCells #[.int .u8 0, .slice none 0 0] (n * 2)) 27)) := by
  obtain ⟨i, hi, hz, hs, hb⟩ := info_parts Try.info27
  have hr := run_make (P := Try.prog) w 28 27 i _ Try.underlying28 hi hz kl kc n n (by omega) (Int.le_refl _) (by rw [hb]; omega) (by omega)
  simpa [hs, Value.cells] using hr

/-- The row that the call fills: its first k elements are E 0 .. E (k - 1). -/
def Filled (w : World) (g n k : Nat) (E : Nat → El) : Prop :=
  ∃ f, w.rowIs g 27 (n * 2) f ∧ ∀ i, i < k → f (i * 2) = .int .u8 (E i).id ∧ f (i * 2 + 1) = .slice (E i).a (E i).l (E i).c

theorem filled_made (w : World) (n : Nat) (E : Nat → El) : Filled (w.alloc (.cells (madeCells #[.int .u8 0, .slice none 0 0] (n * 2)) 27)) w.heap.size n 0 E := by
  have h := World.rowIs_alloc w (madeCells #[.int .u8 0, .slice none 0 0] (n * 2)) 27 (fun j => (madeCells #[.int .u8 0, .slice none 0 0] (n * 2)).getD j undef) (fun i hi => by simp [Array.getD, hi])
  rw [size_madeCells] at h
  exact ⟨_, h, fun i hi => absurd hi (Nat.not_lt_zero _)⟩

theorem filled_step {w : World} {g n k : Nat} {E : Nat → El} (h : Filled w g n k E) :
    Filled ((w.setCell ⟨g, k * 2, none⟩ (.int .u8 (E k).id)).setCell ⟨g, k * 2 + 1, none⟩ (.slice (E k).a (E k).l (E k).c)).drew g n (k + 1) E := by
  obtain ⟨f, hr, hf⟩ := h
  refine ⟨_, ((hr.set (k * 2) (.int .u8 (E k).id)).set (k * 2 + 1) (.slice (E k).a (E k).l (E k).c)).drew, fun i hi => ?_⟩
  by_cases e : i = k
  · subst e
    simp
  · have h1 : i * 2 ≠ k * 2 + 1 := by omega
    have h2 : i * 2 ≠ k * 2 := by omega
    have h3 : i * 2 + 1 ≠ k * 2 + 1 := by omega
    have h4 : i * 2 + 1 ≠ k * 2 := by omega
    simp only [h1, h2, h3, h4, if_false]
    exact hf i (by omega)

/-- Every cell that was there reads as it did. -/
theorem below_keeps {w w' : World} (hb : Below w.heap.size w w') {p : Addr} {v : Value} (h : w.cell? p = some v) : w'.cell? p = some v :=
  (hb.cell (World.block_lt_of_cell? w p h)).trans h

theorem El.ok.below {w w' : World} {e : El} (h : e.ok w) (hb : Below w.heap.size w w') : e.ok w' := by
  obtain ⟨h1, h2, h3, h4, h5⟩ := h
  refine ⟨h1, h2, h3, ?_, h5⟩
  rcases h4 with h4 | ⟨b, off, ha, hc⟩
  · exact .inl h4
  · exact .inr ⟨b, off, ha, fun j hj => below_keeps hb (hc j hj)⟩

theorem RowAt.below {w w' : World} {a : Option Addr} {n : Nat} {E : Nat → El} (h : RowAt w a n E) (hb : Below w.heap.size w w') : RowAt w' a n E := by
  obtain ⟨h1, h2⟩ := h
  refine ⟨?_, fun i hi => (h2 i hi).below hb⟩
  rcases h1 with h1 | ⟨b, off, ha, hc⟩
  · exact .inl h1
  · exact .inr ⟨b, off, ha, fun i hi => ⟨below_keeps hb (hc i hi).1, below_keeps hb (hc i hi).2⟩⟩

theorem filled_row {w : World} {g n : Nat} {E : Nat → El} (h : Filled w g n n E) (hok : ∀ i, i < n → (E i).ok w) : RowAt w (some ⟨g, 0, none⟩) n E := by
  obtain ⟨f, hr, hf⟩ := h
  refine ⟨.inr ⟨g, 0, rfl, fun i hi => ⟨?_, ?_⟩⟩, hok⟩
  · rw [Nat.zero_add, hr.cell (by omega), (hf i hi).1]
  · rw [Nat.zero_add, hr.cell (by omega), (hf i hi).2]

def ElemsPost (w : World) (n : Nat) (E : Nat → El) (e : Ending) (w' : World) : Prop :=
  (∃ a' c', e = .returned (.slice a' n c') ∧ RowAt w' a' n E) ∧ Below w.heap.size w w'

theorem elements_any (a : Option Addr) (n c : Nat) (E : Nat → El) (w : World) (hn : n ≤ 1048576) (hr : RowAt w a n E) (ha : a = none → n = 0 ∧ c = 0) :
    Calls Try.prog 11 #[.slice a n c] w fun e w' => ElemsPost w n E e w' := by
  obtain ⟨hr, hok⟩ := hr
  have hmk := fun kl kc => run_make_elems kl kc n hn
  rcases a with _ | a
  · obtain ⟨rfl, rfl⟩ := ha rfl
    have hnil := fun (w : World) => Lib.run_eql_slice_nil (P := Try.prog) w 22 30 none 0 0 0 0 Try.underlying22
    go_enter Try.func11, Try.ntmps11
    go_wp2_with fail
    go_ret
    exact ⟨⟨none, 0, rfl, .inl rfl, hok⟩, Below.refl _ _⟩
  · have hnil := fun (w : World) => Lib.run_eql_slice_nil (P := Try.prog) w 22 30 (some a) n c 0 0 Try.underlying22
    go_enter Try.func11, Try.ntmps11
    go_wp2_with fail
    clear hmk hnil
    go_loopw [4] (fun i wr => ∃ k : Nat, k ≤ n ∧ i = .int .i64 k ∧ Filled wr w.heap.size n k E ∧ Below w.heap.size w wr) (fun i _ => n - (intOf i).toNat)
    case atStart => exact ⟨0, Nat.zero_le _, rfl, filled_made w n E, (Below.refl _ _).alloc (Nat.le_refl _) _⟩
    case round =>
      obtain ⟨k, hk, rfl, hf, hb⟩ := hrel
      by_cases hlt : k < n
      · rcases hr with rfl | ⟨b, off, hao, hc⟩
        · omega
        · obtain rfl := Option.some.inj hao
          obtain ⟨f, hrow, hfk⟩ := hf
          have hlt0 := World.block_lt_of_cell? w _ (hc k hlt).1
          have c0 : wr.cell? ⟨b, off + k * 2, none⟩ = some (.int .u8 (E k).id) := (hb.cell hlt0).trans (hc k hlt).1
          have c1 : wr.cell? ⟨b, off + k * 2 + 1, none⟩ = some (.slice (E k).a (E k).l (E k).c) := (hb.cell (p := ⟨b, off + k * 2 + 1, none⟩) hlt0).trans (hc k hlt).2
          have o0 : wr.cell? ⟨w.heap.size, k * 2, none⟩ = some (f (k * 2)) := hrow.cell (by omega)
          have o1 : wr.cell? ⟨w.heap.size, k * 2 + 1, none⟩ = some (f (k * 2 + 1)) := hrow.cell (by omega)
          have z0 : wr.frozen? ⟨w.heap.size, k * 2, none⟩ = false := hrow.frozen _
          have z1 : wr.frozen? ⟨w.heap.size, k * 2 + 1, none⟩ = false := hrow.frozen _
          have hk0 : (0 : Int) ≤ (k : Int) := by omega
          have hk1 : (k : Int) < (n : Int) := by omega
          have hrow' : Hid (wr.rowIs w.heap.size 27 (n * 2) f) := hrow
          have hfk' : Hid (∀ i, i < k → f (i * 2) = .int .u8 (E i).id ∧ f (i * 2 + 1) = .slice (E i).a (E i).l (E i).c) := hfk
          clear hc hfk hok hrow
          go_wp2_with fail
          go_region
          all_goals go_wp2_with fail
          go_roundw
          case rel => exact ⟨k + 1, by omega, by go_num, filled_step ⟨f, hrow'.out, hfk'.out⟩, ((hb.setCell (Nat.le_refl _) _).setCell (Nat.le_refl _) _).drew⟩
          case measure => simp [intOf]; omega
      · go_wp2_with fail
        go_ret
        obtain rfl : k = n := by omega
        exact ⟨⟨_, _, rfl, filled_row hf (fun i hi => (hok i hi).below hb)⟩, hb⟩

end Go.Proofs.Qxb6616208a
