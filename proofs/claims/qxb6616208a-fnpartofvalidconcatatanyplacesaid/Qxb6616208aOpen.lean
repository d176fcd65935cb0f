/-
  SEAT b6616208a. FROM THE READING OF THE ARGUMENTS TO WHAT THE WALKS ARE TOLD: a []byte is an 'El' without its identifier; a []ZElem is a 'RowAt'.
-/
import Derived.Test.Qxb6616208aBase
import Derived.ProofKit
import Derived.OpenShut
import Derived.ShutString
import Derived.ChangeOld
import Derived.Deep.SlicePairs
namespace Go.Proofs.Qxb6616208a
open Go.ChangeShapes Go.WideShapes Go.ChangeAt Go.RowKit
set_option linter.unusedVariables false

theorem own : ownKnob Try.prog.godebug = none := by kernel_rfl
theorem laidOut : laidOutB Try.prog = true := by kernel_rfl

section
variable {H : Type} {enc : TypeId × Value → H} {W : World}

/-- A []byte value, by its cells: the identifier x beside it makes an element that is in order. -/
theorem open_bytes {fuel : Nat} {v : Value} {y : DataW H × List MemPlace} (h : DataW.trod enc Try.prog W 0 (fun _ => true) true fuel 25 [v] = some y) (x : Int) (hx0 : 0 ≤ x) (hx1 : x ≤ 255) :
    ∃ e : El, v = .slice e.a e.l e.c ∧ e.id = x ∧ e.ok W ∧ (e.a = none → e.l = 0 ∧ e.c = 0) := by
  rcases open_ints Try.underlying25 Try.underlying5 (by kernel_rfl) h with ⟨hcs, _⟩ | ⟨a, l, c, zs, hcs, _, hl, hm, hz, _, hcell, hwz⟩
  · obtain rfl : v = .slice none 0 0 := by simpa using hcs
    exact ⟨⟨x, none, 0, 0, fun _ => 0⟩, rfl, rfl, ⟨hx0, hx1, Nat.zero_le _, .inl rfl, fun j hj => absurd hj (Nat.not_lt_zero _)⟩, fun _ => ⟨rfl, rfl⟩⟩
  · obtain rfl : v = .slice (some a) l c := by simpa using hcs
    simp only [if_true] at hz
    refine ⟨⟨x, some a, l, c, fun j => zs.getD j 0⟩, rfl, rfl, ⟨hx0, hx1, Nat.le_trans hl hm, ?_, ?_⟩, fun h => by cases h⟩
    · by_cases h0 : l = 0
      · exact .inl h0
      · right
        obtain ⟨b, off, spot⟩ := a
        have hspot : spot = none := by simpa [Addr.add] using World.cell?_spot (hcell 0 (by omega))
        subst hspot
        refine ⟨b, off, rfl, fun j hj => ?_⟩
        have := hcell j (by simp at hj; omega)
        rwa [add_plain] at this
    · intro j hj
      have hj' : j < zs.length := by simp at hj; omega
      have hm : zs.getD j 0 ∈ zs := by simp [List.getD, hj']
      exact bounds_u8 (hwz _ hm)

/-- A []ZElem value. -/
theorem open_elems {fuel : Nat} {v : Value} {y : DataW H × List MemPlace} (h : DataW.trod enc Try.prog W 0 (fun _ => true) true fuel 22 [v] = some y) :
    ∃ (a : Option Addr) (n c : Nat) (E : Nat → El), v = .slice a n c ∧ n ≤ maxLen ∧ RowAt W a n E ∧ (a = none → n = 0 ∧ c = 0) := by
  rcases Deep.open_slice_pairs Try.underlying22 Try.underlying30 (by kernel_rfl) rfl rfl (by kernel_rfl) (by kernel_rfl) h with ⟨hcs, _⟩ | ⟨a, len, cap, m, n, V0, V1, D0, D1, P0, P1, hcs, _, hl, hm, hmm, _, hx⟩
  · obtain rfl : v = .slice none 0 0 := by simpa using hcs
    exact ⟨none, 0, 0, fun _ => ⟨0, none, 0, 0, fun _ => 0⟩, rfl, Nat.zero_le _, ⟨.inl rfl, fun i hi => absurd hi (Nat.not_lt_zero _)⟩, fun _ => ⟨rfl, rfl⟩⟩
  · obtain rfl : v = .slice (some a) len cap := by simpa using hcs
    simp only [if_true] at hmm
    rw [hmm] at hx
    have each : ∀ i, i < len → ∃ e : El, V0 i = .int .u8 e.id ∧ V1 i = .slice e.a e.l e.c ∧ e.ok W := by
      intro i hi
      obtain ⟨_, _, t0, t1⟩ := hx i (by omega)
      obtain ⟨x, hc0, _, wx⟩ := DataW.trod_int Try.underlying5 t0
      have hb := bounds_u8 wx
      obtain ⟨e, he, hid, hok, _⟩ := open_bytes t1 x hb.1 hb.2
      exact ⟨e, by rw [hid]; simpa using hc0, he, hok⟩
    have : Inhabited El := ⟨⟨0, none, 0, 0, fun _ => 0⟩⟩
    obtain ⟨E, hE⟩ := Deep.choose_lt each
    refine ⟨some a, len, cap, E, rfl, Nat.le_trans hl hm, ⟨?_, fun i hi => (hE i hi).2.2⟩, fun h => by cases h⟩
    by_cases h0 : len = 0
    · exact .inl h0
    · right
      obtain ⟨b, off, spot⟩ := a
      have hspot : spot = none := by simpa [Addr.add] using World.cell?_spot (hx 0 (by omega)).1
      subst hspot
      refine ⟨b, off, rfl, fun i hi => ?_⟩
      obtain ⟨h1, h2, _, _⟩ := hx i (by omega)
      rw [add_plain] at h1 h2
      rw [h1, (hE i hi).1]
      rw [← Nat.add_assoc] at h2
      rw [h2, (hE i hi).2.1]
      exact ⟨rfl, rfl⟩
end
end Go.Proofs.Qxb6616208a
