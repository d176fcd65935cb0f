/-
  THE PROOF OF 'Rows.FnNoteKeepsEveryNoteInOrderSaid'. The frame after the guide's own shell (proof-skeleton.mjs).
-/
import Derived.Test.Qxb6616402aEvery2
import Derived.Test.Qxb6616402aOpen
namespace Go.Proofs.Qxb6616402a.fnNoteKeepsEveryNoteInOrder
open Go.ChangeShapes Go.WideShapes Go.ChangeAt Go.RowKit
set_option linter.unusedVariables false

set_option maxRecDepth 100000 in
theorem lifted (os : Os) (started : os.Started) (H : Type) (enc : TypeId × Value → H) :
    ReturnsInHanded {} Try.checked os 6 .any (Rows.fnNoteKeepsEveryNoteInOrderSpec.pre6 enc Try.prog Try.f6 Rows.fnNoteKeepsEveryNoteInOrderRow.domain false) (Rows.fnNoteKeepsEveryNoteInOrderSpec.post enc Try.prog Try.f6 false true false false) := by
  refine returnsInHanded_of_change (C := Try.checked) own started (by kernel_rfl) Try.func6
    (ChangeSpec.witness6 (enc := enc) (C := Try.checked) false ⟨#[], #[.slice none 0 0, .int .i64 0, .bool false, .slice none 0 0, .slice none 0 0, .slice none 0 0], []⟩ 8 (by kernel_rfl) (by kernel_rfl) (by kernel_rfl) (by kernel_rfl)) ?_
  intro W base args ds gs before hval0 hW hcnd _
  have hval : ∀ (j : Nat) t v, Try.f6.params[j]? = some t → args[j]? = some v → Value.okWide Try.prog W .any base t v := hval0
  have hW' := hW
  obtain ⟨p, q, hA0, hV, rfl, hfz, hnd⟩ := hW
  have hA : DataW.TrodAll enc Try.prog W 0 (fun _ => true) true Try.f6.params.toList args.toList ds p := hA0
  rw [Try.params6] at hA hval
  obtain ⟨v0, vs0, d0, ds0, p0, q0, hargs, rfl, rfl, h0, r0⟩ := trodAll_cons hA
  obtain ⟨v1, vs1, d1, ds1, p1, q1, rfl, rfl, rfl, h1, r1⟩ := trodAll_cons r0
  obtain ⟨v2, vs2, d2, ds2, p2, q2, rfl, rfl, rfl, h2, r2⟩ := trodAll_cons r1
  obtain ⟨v3, vs3, d3, ds3, p3, q3, rfl, rfl, rfl, h3, r3⟩ := trodAll_cons r2
  obtain ⟨v4, vs4, d4, ds4, p4, q4, rfl, rfl, rfl, h4, r4⟩ := trodAll_cons r3
  obtain ⟨v5, vs5, d5, ds5, p5, q5, rfl, rfl, rfl, h5, r5⟩ := trodAll_cons r4
  obtain ⟨rfl, rfl, rfl⟩ := trodAll_nil r5
  obtain rfl : args = #[v0, v1, v2, v3, v4, v5] := by cases args; simp_all
  obtain ⟨rfl, rfl⟩ := trodVars_none hV
  obtain ⟨a0, l0, c0, rfl⟩ := okWide_slice Try.underlying22 (hval 0 22 v0 rfl rfl)
  have k0 := h0
  have lt0 : ∀ x ∈ p0, x.block < W.heap.size := by obtain ⟨m, hm⟩ := k0; exact DataW.trod_lt m _ _ _ hm
  obtain ⟨f0, t0⟩ := h0
  obtain ⟨x1, rfl, rfl, rfl, w1⟩ := open_int Try.underlying3 (hval 1 3 v1 rfl rfl) h1
  obtain ⟨x2, rfl, rfl, rfl⟩ := open_bool Try.underlying4 (hval 2 4 v2 rfl rfl) h2
  obtain ⟨a3, l3, c3, rfl⟩ := okWide_slice Try.underlying33 (hval 3 33 v3 rfl rfl)
  have k3 := h3
  have lt3 : ∀ x ∈ p3, x.block < W.heap.size := by obtain ⟨m, hm⟩ := k3; exact DataW.trod_lt m _ _ _ hm
  obtain ⟨f3, t3⟩ := h3
  obtain ⟨a4, l4, c4, rfl⟩ := okWide_slice Try.underlying33 (hval 4 33 v4 rfl rfl)
  have k4 := h4
  have lt4 : ∀ x ∈ p4, x.block < W.heap.size := by obtain ⟨m, hm⟩ := k4; exact DataW.trod_lt m _ _ _ hm
  obtain ⟨f4, t4⟩ := h4
  obtain ⟨a5, l5, c5, rfl⟩ := okWide_slice Try.underlying34 (hval 5 34 v5 rfl rfl)
  have k5 := h5
  have lt5 : ∀ x ∈ p5, x.block < W.heap.size := by obtain ⟨m, hm⟩ := k5; exact DataW.trod_lt m _ _ _ hm
  obtain ⟨f5, t5⟩ := h5
  obtain ⟨b0, n0, m0, B, hv0, hn0, hc0, ha0⟩ := open_bytes (v := .slice a0 l0 c0) (by simpa [Value.cells] using t0)
  obtain ⟨b3, n3, m3, S, hv3, hn3, hc3, ha3⟩ := open_ints64 (v := .slice a3 l3 c3) (by simpa [Value.cells] using t3)
  obtain ⟨b4, n4, m4, E, hv4, hn4, hc4, ha4⟩ := open_ints64 (v := .slice a4 l4 c4) (by simpa [Value.cells] using t4)
  obtain ⟨b5, n5, m5, X, hv5, hn5, hc5, ha5, hX⟩ := open_strings (v := .slice a5 l5 c5) (by simpa [Value.cells] using t5)
  clear hA0 hval0
  have hwalk : Calls Try.prog 6 #[.slice a0 l0 c0, .int .i64 x1, .bool x2, .slice a3 l3 c3, .slice a4 l4 c4, .slice a5 l5 c5] W fun e w' => e = .returned (.bool true) ∧ Below W.heap.size W w' := by
    rw [hv0, hv3, hv4, hv5]
    by_cases z0 : 1048576 < n0
    · exact every_early _ _ _ _ _ _ _ _ _ _ _ _ _ _ X W hn0 hn3 hn4 hn5 hc5 hX (.inl (decide_eq_true (by omega)))
    have y0 : decide (1048576 < (n0 : Int)) = false := decide_eq_false (by omega)
    by_cases z1 : 131072 < n3
    · exact every_early _ _ _ _ _ _ _ _ _ _ _ _ _ _ X W hn0 hn3 hn4 hn5 hc5 hX (.inr (.inl ⟨y0, decide_eq_true (by omega)⟩))
    have y1 : decide (131072 < (n3 : Int)) = false := decide_eq_false (by omega)
    by_cases z2 : 131072 < n4
    · exact every_early _ _ _ _ _ _ _ _ _ _ _ _ _ _ X W hn0 hn3 hn4 hn5 hc5 hX (.inr (.inr (.inl ⟨y0, y1, decide_eq_true (by omega)⟩)))
    have y2 : decide (131072 < (n4 : Int)) = false := decide_eq_false (by omega)
    by_cases z3 : 131072 < n5
    · exact every_early _ _ _ _ _ _ _ _ _ _ _ _ _ _ X W hn0 hn3 hn4 hn5 hc5 hX (.inr (.inr (.inr (.inl ⟨y0, y1, y2, decide_eq_true (by omega)⟩))))
    have y3 : decide (131072 < (n5 : Int)) = false := decide_eq_false (by omega)
    by_cases z4 : 1048576 < n0 + 8 * n3 + 8 * n4
    · exact every_early _ _ _ _ _ _ _ _ _ _ _ _ _ _ X W hn0 hn3 hn4 hn5 hc5 hX (.inr (.inr (.inr (.inr ⟨y0, y1, y2, y3, by omega, by omega, by omega, z4⟩))))
    exact every_walk _ _ _ _ _ _ _ _ _ _ _ _ _ _ B S E X W (by omega) (by omega) (by omega) (by omega) (by omega) hc0 hc3 hc4 hc5 ha0 ha3 ha4 ha5 hX
  refine hwalk.mono fun e W' ⟨he, bel⟩ => ?_
  subst he
  exact ⟨_, rfl, _, _, _, [], _, [], hW', trodAll_mk1 (shut_bool Try.underlying4 _), (trodAll_cons_mk (Below.trod laidOut (by kernel_rfl) (of_decide_eq_true (by kernel_rfl)) k0 bel lt0) (trodAll_cons_mk (shut_int Try.underlying3 w1) (trodAll_cons_mk (shut_bool Try.underlying4 _) (trodAll_cons_mk (Below.trod laidOut (by kernel_rfl) (of_decide_eq_true (by kernel_rfl)) k3 bel lt3) (trodAll_cons_mk (Below.trod laidOut (by kernel_rfl) (of_decide_eq_true (by kernel_rfl)) k4 bel lt4) (trodAll_cons_mk (Below.trod laidOut (by kernel_rfl) (of_decide_eq_true (by kernel_rfl)) k5 bel lt5) trodAll_mk0)))))), rfl, bel.frame _, fun h => by cases h⟩

theorem over : Rows.fnNoteKeepsEveryNoteInOrderRow.holds Try.pinned (OpenSpec.ofChange Rows.fnNoteKeepsEveryNoteInOrderSpec) :=
  OpenClaim.holds_of_wide 6 Try.f6 rfl rfl rfl rfl rfl rfl rfl ⟨rfl, rfl, rfl, rfl, rfl⟩ rfl rfl rfl rfl rfl (by kernel_rfl) Try.func6 (by kernel_rfl)
    (of_decide_eq_true (by kernel_rfl)) (by unfold Func.isWrapper; first | (rw [if_pos (by decide +kernel)]; kernel_rfl) | (rw [if_neg (by decide +kernel)]; exact ⟨rfl, rfl⟩))
    (fun os started H enc _ => lifted os started H enc)

/-- THE STATEMENT -/
theorem proved : Rows.FnNoteKeepsEveryNoteInOrderSaid := over
#print axioms proved
end Go.Proofs.Qxb6616402a.fnNoteKeepsEveryNoteInOrder
