/-
  THE PROOF OF 'Rows.FnMemberChainPosIsReceiverPosSaid'. The frame after the guide's own shell (proof-skeleton.mjs).
-/
import Derived.Test.Qxb6616356aLaw
import Derived.ProofKit
import Derived.OpenShut
import Derived.ShutString
import Derived.ChangeOld
import Derived.Deep.SlicePairs
namespace Go.Proofs.Qxb6616356a.fnChain
open Go.ChangeShapes Go.WideShapes Go.ChangeAt Go.RowKit
set_option linter.unusedVariables false

theorem own : ownKnob Try.prog.godebug = none := by kernel_rfl
theorem laidOut : laidOutB Try.prog = true := by kernel_rfl

/-- A []MemberStep value. -/
theorem open_steps {H : Type} {enc : TypeId × Value → H} {W : World} {fuel : Nat} {v : Value} {y : DataW H × List MemPlace} (h : DataW.trod enc Try.prog W 0 (fun _ => true) true fuel 22 [v] = some y) :
    ∃ (a : Option Addr) (n c : Nat) (Q N : Nat → Int), v = .slice a n c ∧ n ≤ maxLen ∧ StepsAt W a n Q N := by
  rcases Deep.open_slice_pairs Try.underlying22 Try.underlying28 (by kernel_rfl) rfl rfl (by kernel_rfl) (by kernel_rfl) h with ⟨hcs, _⟩ | ⟨a, len, cap, m, n, V0, V1, D0, D1, P0, P1, hcs, _, hl, hm, hmm, _, hx⟩
  · obtain rfl : v = .slice none 0 0 := by simpa using hcs
    exact ⟨none, 0, 0, fun _ => 0, fun _ => 0, rfl, Nat.zero_le _, .inl rfl⟩
  · obtain rfl : v = .slice (some a) len cap := by simpa using hcs
    simp only [if_true] at hmm
    rw [hmm] at hx
    have each : ∀ i, i < len → ∃ e : Int × Int, V0 i = .int .i64 e.1 ∧ V1 i = .int .i64 e.2 := by
      intro i hi
      obtain ⟨_, _, t0, t1⟩ := hx i (by omega)
      obtain ⟨x, hc0, _, _⟩ := DataW.trod_int Try.underlying3 t0
      obtain ⟨z, hc1, _, _⟩ := DataW.trod_int Try.underlying3 t1
      exact ⟨(x, z), by simpa using hc0, by simpa using hc1⟩
    obtain ⟨E, hE⟩ := Deep.choose_lt each
    refine ⟨some a, len, cap, fun i => (E i).1, fun i => (E i).2, rfl, Nat.le_trans hl hm, ?_⟩
    by_cases h0 : len = 0
    · exact .inl h0
    · right
      obtain ⟨b, off, spot⟩ := a
      have hspot : spot = none := by simpa [Addr.add] using World.cell?_spot (hx 0 (by omega)).1
      subst hspot
      refine ⟨b, off, rfl, fun i hi => ?_⟩
      obtain ⟨h1, h2, _, _⟩ := hx i (by omega)
      rw [add_plain] at h1 h2
      rw [h1, (hE i hi).1]
      rw [← Nat.add_assoc] at h2
      rw [h2, (hE i hi).2]
      exact ⟨rfl, rfl⟩

set_option maxRecDepth 100000 in
theorem lifted (os : Os) (started : os.Started) (H : Type) (enc : TypeId × Value → H) :
    ReturnsInHanded {} Try.checked os 3 .any (Rows.fnMemberChainPosIsReceiverPosSpec.pre6 enc Try.prog Try.f3 Rows.fnMemberChainPosIsReceiverPosRow.domain false) (Rows.fnMemberChainPosIsReceiverPosSpec.post enc Try.prog Try.f3 false true false false) := by
  refine returnsInHanded_of_change (C := Try.checked) own started (by kernel_rfl) Try.func3
    (ChangeSpec.witness6 (enc := enc) (C := Try.checked) false ⟨#[], #[.int .i64 0, .int .i64 0, .int .i64 0, .slice none 0 0], []⟩ 8 (by kernel_rfl) (by kernel_rfl) (by kernel_rfl) (by kernel_rfl)) ?_
  intro W base args ds gs before hval0 hW hcnd _
  have hval : ∀ (j : Nat) t v, Try.f3.params[j]? = some t → args[j]? = some v → Value.okWide Try.prog W .any base t v := hval0
  have hW' := hW
  obtain ⟨p, q, hA0, hV, rfl, hfz, hnd⟩ := hW
  have hA : DataW.TrodAll enc Try.prog W 0 (fun _ => true) true Try.f3.params.toList args.toList ds p := hA0
  rw [Try.params3] at hA hval
  obtain ⟨v0, vs0, d0, ds0, p0, q0, hargs, rfl, rfl, h0, r0⟩ := trodAll_cons hA
  obtain ⟨v1, vs1, d1, ds1, p1, q1, rfl, rfl, rfl, h1, r1⟩ := trodAll_cons r0
  obtain ⟨v2, vs2, d2, ds2, p2, q2, rfl, rfl, rfl, h2, r2⟩ := trodAll_cons r1
  obtain ⟨v3, vs3, d3, ds3, p3, q3, rfl, rfl, rfl, h3, r3⟩ := trodAll_cons r2
  obtain ⟨rfl, rfl, rfl⟩ := trodAll_nil r3
  obtain rfl : args = #[v0, v1, v2, v3] := by cases args; simp_all
  obtain ⟨rfl, rfl⟩ := trodVars_none hV
  obtain ⟨x0, rfl, rfl, rfl, w0⟩ := open_int Try.underlying3 (hval 0 3 v0 rfl rfl) h0
  obtain ⟨x1, rfl, rfl, rfl, w1⟩ := open_int Try.underlying3 (hval 1 3 v1 rfl rfl) h1
  obtain ⟨x2, rfl, rfl, rfl, w2⟩ := open_int Try.underlying3 (hval 2 3 v2 rfl rfl) h2
  obtain ⟨a3, l3, c3, rfl⟩ := okWide_slice Try.underlying22 (hval 3 22 v3 rfl rfl)
  have k3 := h3
  have lt3 : ∀ x ∈ p3, x.block < W.heap.size := by obtain ⟨m, hm⟩ := k3; exact DataW.trod_lt m _ _ _ hm
  obtain ⟨f3, t3⟩ := h3
  obtain ⟨a, n, c, Q, N, hv, hn, hrow⟩ := open_steps (v := .slice a3 l3 c3) (by simpa [Value.cells] using t3)
  clear hA0 hval0
  have hwalk : Calls Try.prog 3 #[.int .i64 x0, .int .i64 x1, .int .i64 x2, .slice a3 l3 c3] W fun e w' => e = .returned (.bool true) ∧ Below W.heap.size W w' := by
    rw [hv]
    exact law_walk x0 x1 x2 a n c Q N W hn hrow
  refine hwalk.mono fun e W' ⟨he, bel⟩ => ?_
  subst he
  exact ⟨_, rfl, _, _, _, [], _, [], hW', trodAll_mk1 (shut_bool Try.underlying4 _), (trodAll_cons_mk (shut_int Try.underlying3 w0) (trodAll_cons_mk (shut_int Try.underlying3 w1) (trodAll_cons_mk (shut_int Try.underlying3 w2) (trodAll_cons_mk (Below.trod laidOut (by kernel_rfl) (of_decide_eq_true (by kernel_rfl)) k3 bel lt3) trodAll_mk0)))), rfl, bel.frame _, fun h => by cases h⟩

theorem over : Rows.fnMemberChainPosIsReceiverPosRow.holds Try.pinned (OpenSpec.ofChange Rows.fnMemberChainPosIsReceiverPosSpec) :=
  OpenClaim.holds_of_wide 3 Try.f3 rfl rfl rfl rfl rfl rfl rfl ⟨rfl, rfl, rfl, rfl, rfl⟩ rfl rfl rfl rfl rfl (by kernel_rfl) Try.func3 (by kernel_rfl)
    (of_decide_eq_true (by kernel_rfl)) (by unfold Func.isWrapper; first | (rw [if_pos (by decide +kernel)]; kernel_rfl) | (rw [if_neg (by decide +kernel)]; exact ⟨rfl, rfl⟩))
    (fun os started H enc _ => lifted os started H enc)

/-- THE STATEMENT -/
theorem proved : Rows.FnMemberChainPosIsReceiverPosSaid := over
#print axioms proved
end Go.Proofs.Qxb6616356a.fnChain
