/-
  SEAT b6616468a. FROM THE READING OF THE ARGUMENTS TO WHAT THE WALKS ARE TOLD: slices of one-cell elements.
-/
import Derived.Test.Qxb6616468aBase
import Derived.ProofKit
import Derived.OpenShut
import Derived.ShutString
import Derived.ChangeOld
import Derived.Deep.Slices
namespace Go.Proofs.Qxb6616468a
open Go.ChangeShapes Go.WideShapes Go.ChangeAt Go.RowKit
set_option linter.unusedVariables false

theorem own : ownKnob Try.prog.godebug = none := by kernel_rfl
theorem laidOut : laidOutB Try.prog = true := by kernel_rfl

section
variable {H : Type} {enc : TypeId × Value → H} {W : World}

theorem open_cells {t e : TypeId} (ht : Try.prog.underlying t = some (.slice e)) (hc : Try.prog.cellsOf e = 1) {α : Type} [Inhabited α] (F : α → Value) (G : α → Prop)
    (each : ∀ (v : Value) (n : Nat) (d : DataW H × List MemPlace), DataW.trod enc Try.prog W 0 (fun _ => true) true n e [v] = some d → ∃ x, v = F x ∧ G x)
    {fuel : Nat} {v : Value} {y : DataW H × List MemPlace} (h : DataW.trod enc Try.prog W 0 (fun _ => true) true fuel t [v] = some y) :
    ∃ (a : Option Addr) (n c : Nat) (X : Nat → α), v = .slice a n c ∧ n ≤ maxLen ∧ CellsAt W a n (fun j => F (X j)) ∧ (a = none → n = 0 ∧ c = 0) ∧ ∀ j, j < n → G (X j) := by
  rcases Deep.open_slice1 ht hc h with ⟨hcs, _⟩ | ⟨a, len, cap, m, n, V, D, Pl, hcs, _, hl, hm, hmm, _, hx⟩
  · obtain rfl : v = .slice none 0 0 := by simpa using hcs
    exact ⟨none, 0, 0, fun _ => default, rfl, Nat.zero_le _, .inl rfl, fun _ => ⟨rfl, rfl⟩, fun j hj => absurd hj (Nat.not_lt_zero _)⟩
  · obtain rfl : v = .slice (some a) len cap := by simpa using hcs
    simp only [if_true] at hmm
    rw [hmm] at hx
    obtain ⟨X, hX⟩ := Deep.choose_lt (p := fun i x => V i = F x ∧ G x) (n := len) (fun i hi => each (V i) n _ (hx i (by omega)).2)
    refine ⟨some a, len, cap, X, rfl, Nat.le_trans hl hm, ?_, (fun h => by cases h), fun j hj => (hX j hj).2⟩
    by_cases h0 : len = 0
    · exact .inl h0
    · right
      obtain ⟨b, off, spot⟩ := a
      have hspot : spot = none := by simpa [Addr.add] using World.cell?_spot (hx 0 (by omega)).1
      subst hspot
      refine ⟨b, off, rfl, fun j hj => ?_⟩
      have h1 := (hx j (by omega)).1
      rw [add_plain] at h1
      rw [h1, (hX j hj).1]

theorem open_strings {fuel : Nat} {v : Value} {y : DataW H × List MemPlace} (h : DataW.trod enc Try.prog W 0 (fun _ => true) true fuel 22 [v] = some y) :
    ∃ (a : Option Addr) (n c : Nat) (X : Nat → ByteArray), v = .slice a n c ∧ n ≤ maxLen ∧ CellsAt W a n (fun j => .string (X j)) ∧ (a = none → n = 0 ∧ c = 0) ∧ ∀ j, j < n → (X j).size ≤ maxLen := by
  have : Inhabited ByteArray := ⟨ByteArray.empty⟩
  exact open_cells Try.underlying22 (by kernel_rfl) (fun x : ByteArray => Value.string x) (fun x => x.size ≤ maxLen) (fun v n d hd => by
    obtain ⟨x, hx, _, hs⟩ := DataW.trod_string Try.underlying9 hd
    exact ⟨x, by simpa using hx, hs⟩) h
end
end Go.Proofs.Qxb6616468a
