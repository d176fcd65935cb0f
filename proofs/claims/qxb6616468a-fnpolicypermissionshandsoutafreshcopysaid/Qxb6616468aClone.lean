import Derived.Test.Qxb6616468aBase
namespace Go.Proofs.Qxb6616468a
open Go.RowKit
set_option linter.unusedVariables false

/-- The cells of the strings X 0 .. X (n - 1). -/
def strRow (X : Nat → ByteArray) (n : Nat) : List Value := (List.range n).map fun j => .string (X j)
theorem strRow_len (X : Nat → ByteArray) (n : Nat) : (strRow X n).length = n := by simp [strRow]
theorem strRow_at (X : Nat → ByteArray) (n j : Nat) (h : j < n) : (strRow X n)[j]? = some (.string (X j)) := by simp [strRow, h]
theorem strRow_lt {X : Nat → ByteArray} {n j : Nat} {v : Value} (h : (strRow X n)[j]? = some v) : j < n ∧ v = .string (X j) := by
  by_cases hj : j < n
  · exact ⟨hj, by rw [strRow_at X n j hj] at h; exact (Option.some.inj h).symm⟩
  · rw [List.getElem?_eq_none (by rw [strRow_len]; omega)] at h; cases h
theorem strRow_one (X : Nat → ByteArray) (n : Nat) : ∀ u ∈ strRow X n, u.oneCell' = true := by
  intro u hu
  simp only [strRow, List.mem_map] at hu
  obtain ⟨j, _, rfl⟩ := hu
  rfl

def ClonePost (w : World) (n : Nat) (X : Nat → ByteArray) (e : Ending) (w' : World) : Prop :=
  ∃ g cap, e = .returned (.slice (some ⟨g, 0, none⟩) n cap) ∧ n ≤ cap ∧ w.heap.size ≤ g ∧ g < w'.heap.size ∧ Filled w' g 9 cap n (fun j => .string (X j)) ∧ Below w.heap.size w w'

theorem own_filled {w : World} {base : Nat} {v : Value} {n : Nat} {X : Nat → ByteArray} (h : w.ownsRow base 9 1 v n (strRow X n)) (hv : v ≠ .slice none 0 0) :
    ∃ g cap, v = .slice (some ⟨g, 0, none⟩) n cap ∧ n ≤ cap ∧ base ≤ g ∧ g < w.heap.size ∧ Filled w g 9 cap n (fun j => .string (X j)) := by
  rcases h.2 with ⟨h0, _⟩ | ⟨g, cap, cur, rfl, hb, hg, hnc, _, hcs, htake⟩
  · exact absurd h0 hv
  · refine ⟨g, cap, rfl, hnc, hb, (Array.getElem?_eq_some_iff.1 hg).1, fun j => cur.getD j undef, ⟨cur, hg, by omega, fun i hi => by simp [Array.getD, show i < cur.size from by omega]⟩, fun i hi => ?_⟩
    have e : cur[i]? = some (.string (X i)) := by
      have h1 := strRow_at X n i hi
      rw [← htake, List.getElem?_take] at h1
      split at h1
      · simpa using h1
      · cases h1
    obtain ⟨hlt, he⟩ := Array.getElem?_eq_some_iff.1 e
    simp [Array.getD, hlt, he]

theorem clone_any (b off n c : Nat) (X : Nat → ByteArray) (w : World) (hn : n ≤ 1048576) (hc : CellsAt w (some ⟨b, off, none⟩) n (fun j => .string (X j))) :
    Calls Try.prog 9 #[.slice (some ⟨b, off, none⟩) n c] w fun e w' => ClonePost w n X e w' := by
  have hnil := fun (w : World) => Lib.run_eql_slice_nil (P := Try.prog) w 22 9 (some ⟨b, off, none⟩) n c 0 0 Try.underlying22
  have hsrc : ∀ j u, (strRow X n)[j]? = some u → w.cell? ((⟨b, off, none⟩ : Addr).add j) = some u := by
    intro j u hu
    obtain ⟨hj, rfl⟩ := strRow_lt hu
    rcases hc with h | ⟨b', off', ha, hcc⟩
    · omega
    · obtain ⟨rfl, rfl⟩ : b = b' ∧ off = off' := by simpa using ha
      have : (⟨b, off, none⟩ : Addr).add j = ⟨b, off + j, none⟩ := by unfold Addr.add; split <;> simp_all
      rw [this]
      exact hcc j hj
  have HS : Hid (∀ j u, (strRow X n)[j]? = some u → w.cell? ((⟨b, off, none⟩ : Addr).add j) = some u) := hsrc
  clear hsrc hc
  obtain ⟨i0, hi, hz0, hz1, hz2⟩ := info_parts Try.info9
  have hown : (w.alloc (.cells #[] 9)).ownsRow w.heap.size 9 1 (.slice (some ⟨w.heap.size, 0, none⟩) 0 0) 0 [] := World.ownsRow_made w #[] 0 (Nat.le_refl _) (by unfold maxLen; omega) rfl
  have hnews : ∀ j u, (strRow X n)[j]? = some u → (w.alloc (.cells #[] 9)).cell? ((⟨b, off, none⟩ : Addr).add j) = some u := fun j u hu => below_keeps ((Below.refl _ _).alloc (Nat.le_refl _) _) (HS.out j u hu)
  have hlen : (strRow X n).length = n * 1 := by rw [strRow_len]; omega
  go_enter Try.func9, Try.ntmps9
  go_wp2_with (at_builtin; refine wpList_append_own _ (by rfl) _ _ 22 (by rfl) w.heap.size 9 i0 _ 1 16 Try.underlying22 hi hz0 hz1 hz2 rfl (by omega) (.slice (some ⟨w.heap.size, 0, none⟩) 0 0) 0 [] (by rfl) hown ⟨b, off, none⟩ n c (strRow X n) (by rfl) hlen hnews (strRow_one X n) (by unfold maxLen; omega) (by omega) (by simp) ?_; intro v' w2 hown2 hgrow hnz)
  have hne : v' ≠ .slice none 0 0 := fun h => by have := (hnz.1 h).1; simp at this
  have hown3 : w2.ownsRow w.heap.size 9 1 v' n (strRow X n) := by simpa using hown2
  obtain ⟨g, cap, rfl, hcap, hgb, hgl, hf⟩ := own_filled hown3 hne
  go_ret
  refine ⟨g, cap, rfl, hcap, hgb, hgl, hf, ?_⟩
  refine ((Below.refl _ _).alloc (Nat.le_refl _) _).grown hgrow (by simp) ?_
  intro k hk
  simp [Value.ownBlock] at hk
  omega

theorem newPolicy_any (a : Option Addr) (n c : Nat) (w : World) :
    Calls Try.prog 7 #[.slice a n c] w fun e w' => (e = .returned (.pointer (some ⟨w.heap.size, 0, none⟩)) ∧ w'.cell? ⟨w.heap.size, 2, none⟩ = some (.slice a n c)) ∧ Below w.heap.size w w' := by
  go_enter Try.func7, Try.ntmps7
  go_wp2_with fail
  go_ret
  exact ⟨⟨rfl, by simp⟩, (Below.refl _ _).alloc (Nat.le_refl _) _⟩

theorem permissions_any (g b off n c : Nat) (X : Nat → ByteArray) (w : World) (hn : n ≤ 1048576) (hg : w.cell? ⟨g, 2, none⟩ = some (.slice (some ⟨b, off, none⟩) n c)) (hc : CellsAt w (some ⟨b, off, none⟩) n (fun j => .string (X j))) :
    Calls Try.prog 8 #[.pointer (some ⟨g, 0, none⟩)] w fun e w' => ClonePost w n X e w' := by
  have HH : Hid (Calls Try.prog 9 #[.slice (some ⟨b, off, none⟩) n c] w fun e w' => ClonePost w n X e w') := clone_any b off n c X w hn hc
  clear hc
  go_enter Try.func8, Try.ntmps8
  go_wp2_with fail
  refine HH.out.mono ?_
  rintro e w1 ⟨g1, cap, rfl, h1, h2, h3, h4, h5⟩
  go_wp2_with fail
  go_ret
  exact ⟨g1, cap, rfl, h1, h2, h3, h4, h5⟩

end Go.Proofs.Qxb6616468a
