import Derived.Test.Qxb6616208aConcat
namespace Go.Proofs.Qxb6616208a
open Go.RowKit
set_option linter.unusedVariables false

/-- p is the part number of the first of E 0 .. E (n - 1) that gives one, or 0. -/
def IsPart (n : Nat) (E : Nat → El) (p : Int) : Prop :=
  (∃ i, i < n ∧ (E i).part = some p ∧ ∀ j, j < i → (E j).part = none) ∨ ((∀ j, j < n → (E j).part = none) ∧ p = 0)

def ConcOfPost (w : World) (n : Nat) (E : Nat → El) (e : Ending) (w' : World) : Prop :=
  (∃ (r t p : Int) (b : Bool), e = .returned (.tuple #[.agg #[.int .i64 r, .int .i64 t, .int .i64 p], .bool b]) ∧ IsPart n E p) ∧ Below w.heap.size w w'

theorem no_step {k : Nat} {E : Nat → El} (h : ∀ j, j < k → (E j).part = none) (hk : (E k).part = none) : ∀ j, j < k + 1 → (E j).part = none := by
  intro j hj
  by_cases e : j = k
  · rw [e]; exact hk
  · exact h j (by omega)

theorem concatOf_any (bp : Nat) (a : Option Addr) (n c : Nat) (E : Nat → El) (w : World) (hn : n ≤ 1048576) (hr : RowAt w a n E) (hp : w.cell? ⟨bp, 35, none⟩ = some (.slice a n c)) :
    Calls Try.prog 37 #[.pointer (some ⟨bp, 0, none⟩)] w fun e w' => ConcOfPost w n E e w' := by
  obtain ⟨hr, hok⟩ := hr
  have hb : bp < w.heap.size := World.block_lt_of_cell? w _ hp
  go_enter Try.func37, Try.ntmps37
  go_wp2_with fail
  go_loopw [13] (fun i wr => ∃ k : Nat, k ≤ n ∧ i = .int .i64 k ∧ (∀ j, j < k → (E j).part = none) ∧ Below (w.heap.size + 1) (w.alloc (.cells #[.int .i64 0, .int .i64 0, .int .i64 0] 92)) wr) (fun i _ => n - (intOf i).toNat)
  case atStart => exact ⟨0, Nat.zero_le _, rfl, fun j hj => absurd hj (Nat.not_lt_zero _), Below.refl _ _⟩
  case round =>
    obtain ⟨k, hk, rfl, hno, hbel⟩ := hrel
    have HN : Hid (∀ j, j < k → (E j).part = none) := hno
    clear hno
    have hbw : Below w.heap.size w wr := ((Below.refl _ _).alloc (Nat.le_refl _) _).trans (hbel.mono (by omega))
    have hsz : w.heap.size + 1 ≤ wr.heap.size := by have := hbel.size; simpa using this
    have q0 : wr.cell? ⟨w.heap.size, 0, none⟩ = some (.int .i64 0) := (hbel.cell (p := ⟨w.heap.size, 0, none⟩) (by simp)).trans (by simp)
    have q1 : wr.cell? ⟨w.heap.size, 1, none⟩ = some (.int .i64 0) := (hbel.cell (p := ⟨w.heap.size, 1, none⟩) (by simp)).trans (by simp)
    have q2 : wr.cell? ⟨w.heap.size, 2, none⟩ = some (.int .i64 0) := (hbel.cell (p := ⟨w.heap.size, 2, none⟩) (by simp)).trans (by simp)
    have qf : ∀ j, wr.frozen? ⟨w.heap.size, j, none⟩ = false := fun j => (hbel.frozen (p := ⟨w.heap.size, j, none⟩) (by simp)).trans (by simp)
    have f0 := qf 0
    have f1 := qf 1
    have f2 := qf 2
    by_cases hlt : k < n
    · rcases hr with rfl | ⟨b, off, rfl, hc⟩
      · omega
      · have hlt0 : b < w.heap.size := World.block_lt_of_cell? w _ (hc k hlt).1
        have c0 : wr.cell? ⟨b, off + k * 2, none⟩ = some (.int .u8 (E k).id) := below_keeps hbw (hc k hlt).1
        have c1 : wr.cell? ⟨b, off + k * 2 + 1, none⟩ = some (.slice (E k).a (E k).l (E k).c) := below_keeps hbw (hc k hlt).2
        have hokr := (hok k hlt).below hbw
        clear hc qf
        go_wp2_with fail
        refine (concat_any (E k) _ (hokr.below ((Below.refl _ _).alloc (Nat.le_refl _) _))).mono ?_
        rintro e w1 ⟨⟨r, t, p, bb, rfl, hh⟩, hb1⟩
        have hs1 : wr.heap.size + 1 ≤ w1.heap.size := by have := hb1.size; simpa using this
        have hb2 : Below (w.heap.size + 1) (w.alloc (.cells #[.int .i64 0, .int .i64 0, .int .i64 0] 92)) w1 := (hbel.alloc hsz _).trans (hb1.mono (by simp; omega))
        have v0 : w1.cell? ⟨w.heap.size, 0, none⟩ = some (.int .i64 0) := (hb2.cell (p := ⟨w.heap.size, 0, none⟩) (by simp)).trans (by simp)
        have v1 : w1.cell? ⟨w.heap.size, 1, none⟩ = some (.int .i64 0) := (hb2.cell (p := ⟨w.heap.size, 1, none⟩) (by simp)).trans (by simp)
        have v2 : w1.cell? ⟨w.heap.size, 2, none⟩ = some (.int .i64 0) := (hb2.cell (p := ⟨w.heap.size, 2, none⟩) (by simp)).trans (by simp)
        have g0 : w1.frozen? ⟨w.heap.size, 0, none⟩ = false := (hb2.frozen (p := ⟨w.heap.size, 0, none⟩) (by simp)).trans (by simp)
        have g1 : w1.frozen? ⟨w.heap.size, 1, none⟩ = false := (hb2.frozen (p := ⟨w.heap.size, 1, none⟩) (by simp)).trans (by simp)
        have g2 : w1.frozen? ⟨w.heap.size, 2, none⟩ = false := (hb2.frozen (p := ⟨w.heap.size, 2, none⟩) (by simp)).trans (by simp)
        have hlw : w.heap.size < w1.heap.size := by omega
        clear c0 c1 q0 q1 q2 f0 f1 f2 hb1
        rcases hh with ⟨rfl, hpart⟩ | ⟨rfl, hpart, rfl⟩
        · have HP : Hid ((E k).part = some p) := hpart
          clear hpart
          go_wp2_with fail
          refine bodyPost_ret (v := .tuple #[.agg #[.int .i64 r, .int .i64 t, .int .i64 p], .bool true]) (by simp [results, Try.results37, go_sem, v0, v1, v2, hlw]) rfl ⟨⟨r, t, p, true, rfl, .inl ⟨k, hlt, HP.out, HN.out⟩⟩, ?_⟩
          have hbw1 : Below w.heap.size w w1 := ((Below.refl _ _).alloc (Nat.le_refl _) _).trans (hb2.mono (by omega))
          exact (((hbw1.setCell (Nat.le_refl _) _).setCell (Nat.le_refl _) _).setCell (Nat.le_refl _) _).alloc (by simp; omega) _
        · have HP : Hid ((E k).part = none) := hpart
          clear hpart
          go_wp2_with fail
          go_roundw
          case rel => exact ⟨k + 1, by omega, by go_num, no_step HN.out HP.out, hb2.alloc (by omega) _⟩
          case measure => simp [intOf]; omega
    · have hlw : w.heap.size < wr.heap.size := by omega
      go_wp2_with fail
      refine bodyPost_ret (v := .tuple #[.agg #[.int .i64 0, .int .i64 0, .int .i64 0], .bool false]) (by simp [results, Try.results37, go_sem, q0, q1, q2]) rfl ⟨⟨0, 0, 0, false, rfl, .inr ⟨fun j hj => HN.out j (by omega), rfl⟩⟩, ?_⟩
      exact ((hbw.setCell (Nat.le_refl _) _).setCell (Nat.le_refl _) _).setCell (Nat.le_refl _) _

/-- partOf, ZZpartOf. -/
def PartPost (w : World) (n : Nat) (E : Nat → El) (e : Ending) (w' : World) : Prop :=
  (∃ p : Int, e = .returned (.int .i64 p) ∧ IsPart n E p) ∧ Below w.heap.size w w'

theorem partOf_any (bp : Nat) (a : Option Addr) (n c : Nat) (E : Nat → El) (w : World) (hn : n ≤ 1048576) (hr : RowAt w a n E) (hp : w.cell? ⟨bp, 35, none⟩ = some (.slice a n c)) :
    Calls Try.prog 27 #[.pointer (some ⟨bp, 0, none⟩)] w fun e w' => PartPost w n E e w' := by
  have H := concatOf_any bp a n c E w hn hr hp
  have HH : Hid (Calls Try.prog 37 #[.pointer (some ⟨bp, 0, none⟩)] w fun e w' => ConcOfPost w n E e w') := H
  clear H hr hp
  go_enter Try.func27, Try.ntmps27
  go_wp2_with fail
  refine HH.out.mono ?_
  rintro e w1 ⟨⟨r, t, p, b, rfl, hpart⟩, hb⟩
  have HP : Hid (IsPart n E p) := hpart
  clear hpart
  go_wp2_with fail
  go_ret
  exact ⟨⟨p, rfl, HP.out⟩, hb.alloc hb.size _⟩

theorem zzPartOf_any (bp : Nat) (a : Option Addr) (n c : Nat) (E : Nat → El) (w : World) (hn : n ≤ 1048576) (hr : RowAt w a n E) (hp : w.cell? ⟨bp, 35, none⟩ = some (.slice a n c)) :
    Calls Try.prog 12 #[.pointer (some ⟨bp, 0, none⟩)] w fun e w' => PartPost w n E e w' := by
  have HH : Hid (Calls Try.prog 27 #[.pointer (some ⟨bp, 0, none⟩)] w fun e w' => PartPost w n E e w') := partOf_any bp a n c E w hn hr hp
  clear hr hp
  go_enter Try.func12, Try.ntmps12
  go_wp2_with fail
  refine HH.out.mono ?_
  rintro e w1 ⟨⟨p, rfl, hpart⟩, hb⟩
  have HP : Hid (IsPart n E p) := hpart
  clear hpart
  go_wp2_with fail
  go_ret
  exact ⟨⟨p, rfl, HP.out⟩, hb⟩

end Go.Proofs.Qxb6616208a
