/-
  THE PROOF OF 'Rows.FnNoteKeepsTwoPreviousApartSaid'. The frame after the guide's own shell (proof-skeleton.mjs).
-/
import Derived.Test.Qxb6616402aApart2
import Derived.Test.Qxb6616402aOpen
namespace Go.Proofs.Qxb6616402a.fnNoteKeepsTwoPreviousApart
open Go.ChangeShapes Go.WideShapes Go.ChangeAt Go.RowKit
set_option linter.unusedVariables false

set_option maxRecDepth 100000 in
theorem lifted (os : Os) (started : os.Started) (H : Type) (enc : TypeId × Value → H) :
    ReturnsInHanded {} Try.checked os 7 .any (Rows.fnNoteKeepsTwoPreviousApartSpec.pre6 enc Try.prog Try.f7 Rows.fnNoteKeepsTwoPreviousApartRow.domain false) (Rows.fnNoteKeepsTwoPreviousApartSpec.post enc Try.prog Try.f7 false true false false) := by
  refine returnsInHanded_of_change (C := Try.checked) own started (by kernel_rfl) Try.func7
    (ChangeSpec.witness6 (enc := enc) (C := Try.checked) false ⟨#[], #[.slice none 0 0, .slice none 0 0, .slice none 0 0], []⟩ 8 (by kernel_rfl) (by kernel_rfl) (by kernel_rfl) (by kernel_rfl)) ?_
  intro W base args ds gs before hval0 hW hcnd _
  have hval : ∀ (j : Nat) t v, Try.f7.params[j]? = some t → args[j]? = some v → Value.okWide Try.prog W .any base t v := hval0
  have hW' := hW
  obtain ⟨p, q, hA0, hV, rfl, hfz, hnd⟩ := hW
  have hA : DataW.TrodAll enc Try.prog W 0 (fun _ => true) true Try.f7.params.toList args.toList ds p := hA0
  rw [Try.params7] at hA hval
  obtain ⟨v0, vs0, d0, ds0, p0, q0, hargs, rfl, rfl, h0, r0⟩ := trodAll_cons hA
  obtain ⟨v1, vs1, d1, ds1, p1, q1, rfl, rfl, rfl, h1, r1⟩ := trodAll_cons r0
  obtain ⟨v2, vs2, d2, ds2, p2, q2, rfl, rfl, rfl, h2, r2⟩ := trodAll_cons r1
  obtain ⟨rfl, rfl, rfl⟩ := trodAll_nil r2
  obtain rfl : args = #[v0, v1, v2] := by cases args; simp_all
  obtain ⟨rfl, rfl⟩ := trodVars_none hV
  obtain ⟨a0, l0, c0, rfl⟩ := okWide_slice Try.underlying33 (hval 0 33 v0 rfl rfl)
  have k0 := h0
  have lt0 : ∀ x ∈ p0, x.block < W.heap.size := by obtain ⟨m, hm⟩ := k0; exact DataW.trod_lt m _ _ _ hm
  obtain ⟨f0, t0⟩ := h0
  obtain ⟨a1, l1, c1, rfl⟩ := okWide_slice Try.underlying33 (hval 1 33 v1 rfl rfl)
  have k1 := h1
  have lt1 : ∀ x ∈ p1, x.block < W.heap.size := by obtain ⟨m, hm⟩ := k1; exact DataW.trod_lt m _ _ _ hm
  obtain ⟨f1, t1⟩ := h1
  obtain ⟨a2, l2, c2, rfl⟩ := okWide_slice Try.underlying48 (hval 2 48 v2 rfl rfl)
  have k2 := h2
  have lt2 : ∀ x ∈ p2, x.block < W.heap.size := by obtain ⟨m, hm⟩ := k2; exact DataW.trod_lt m _ _ _ hm
  obtain ⟨f2, t2⟩ := h2
  obtain ⟨b0, n0, m0, S, hv0, hn0, hc0, ha0⟩ := open_ints64 (v := .slice a0 l0 c0) (by simpa [Value.cells] using t0)
  obtain ⟨b1, n1, m1, E, hv1, hn1, hc1, ha1⟩ := open_ints64 (v := .slice a1 l1 c1) (by simpa [Value.cells] using t1)
  obtain ⟨b2, n2, m2, T, hv2, hn2, hc2, ha2⟩ := open_bools (v := .slice a2 l2 c2) (by simpa [Value.cells] using t2)
  clear hA0 hval0
  have hwalk : Calls Try.prog 7 #[.slice a0 l0 c0, .slice a1 l1 c1, .slice a2 l2 c2] W fun e w' => e = .returned (.bool true) ∧ Below W.heap.size W w' := by
    rw [hv0, hv1, hv2]
    by_cases z0 : 131072 < n0
    · exact apart_early _ _ _ _ _ _ _ _ _ W hn0 hn1 hn2 (.inl (decide_eq_true (by omega)))
    have y0 : decide (131072 < (n0 : Int)) = false := decide_eq_false (by omega)
    by_cases z1 : 131072 < n1
    · exact apart_early _ _ _ _ _ _ _ _ _ W hn0 hn1 hn2 (.inr (.inl ⟨y0, decide_eq_true (by omega)⟩))
    have y1 : decide (131072 < (n1 : Int)) = false := decide_eq_false (by omega)
    by_cases z2 : 131072 < n2
    · exact apart_early _ _ _ _ _ _ _ _ _ W hn0 hn1 hn2 (.inr (.inr (.inl ⟨y0, y1, decide_eq_true (by omega)⟩)))
    have y2 : decide (131072 < (n2 : Int)) = false := decide_eq_false (by omega)
    by_cases z3 : 1048576 < 8 * n0 + 8 * n1 + n2
    · exact apart_early _ _ _ _ _ _ _ _ _ W hn0 hn1 hn2 (.inr (.inr (.inr ⟨y0, y1, y2, by omega, by omega, by omega, z3⟩)))
    exact apart_walk _ _ _ _ _ _ _ _ _ S E T W hc0 hc1 hc2 ha0 ha1 ha2 (by omega) (by omega) (by omega) (by omega)
  refine hwalk.mono fun e W' ⟨he, bel⟩ => ?_
  subst he
  exact ⟨_, rfl, _, _, _, [], _, [], hW', trodAll_mk1 (shut_bool Try.underlying4 _), (trodAll_cons_mk (Below.trod laidOut (by kernel_rfl) (of_decide_eq_true (by kernel_rfl)) k0 bel lt0) (trodAll_cons_mk (Below.trod laidOut (by kernel_rfl) (of_decide_eq_true (by kernel_rfl)) k1 bel lt1) (trodAll_cons_mk (Below.trod laidOut (by kernel_rfl) (of_decide_eq_true (by kernel_rfl)) k2 bel lt2) trodAll_mk0))), rfl, bel.frame _, fun h => by cases h⟩

theorem over : Rows.fnNoteKeepsTwoPreviousApartRow.holds Try.pinned (OpenSpec.ofChange Rows.fnNoteKeepsTwoPreviousApartSpec) :=
  OpenClaim.holds_of_wide 7 Try.f7 rfl rfl rfl rfl rfl rfl rfl ⟨rfl, rfl, rfl, rfl, rfl⟩ rfl rfl rfl rfl rfl (by kernel_rfl) Try.func7 (by kernel_rfl)
    (of_decide_eq_true (by kernel_rfl)) (by unfold Func.isWrapper; first | (rw [if_pos (by decide +kernel)]; kernel_rfl) | (rw [if_neg (by decide +kernel)]; exact ⟨rfl, rfl⟩))
    (fun os started H enc _ => lifted os started H enc)

/-- THE STATEMENT -/
theorem proved : Rows.FnNoteKeepsTwoPreviousApartSaid := over
#print axioms proved
end Go.Proofs.Qxb6616402a.fnNoteKeepsTwoPreviousApart
