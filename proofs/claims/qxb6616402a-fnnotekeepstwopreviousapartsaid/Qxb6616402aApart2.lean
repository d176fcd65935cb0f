import Derived.Test.Qxb6616402aApart
import Derived.Lib.Builder
namespace Go.Proofs.Qxb6616402a
open Go.RowKit
set_option linter.unusedVariables false
attribute [local go_sem ↓] Go.wp_at_zero Go.wp_at_succ

/-- '!=' between one pointer and itself. -/
theorem neq_ptr_self (a : Addr) (w : World) : (binOp .neq 41 (.pointer (some a)) (.pointer (some a))).run Try.prog w = .ok (.bool false) w := by
  obtain ⟨j, hj, -, -, -⟩ := info_parts Try.info9
  exact Lib.run_neq_ptr_same w a Try.underlying41 hj

theorem Prev.drew {w : World} {g base : Nat} {tx v : Value} {ch : Int} {mv : Bool} {nt : Nat → Nt} {I : List Nat} (h : Prev w g base tx v ch mv nt I) : Prev w.drew g base tx v ch mv nt I := ⟨h.blk, h.own⟩

/-- Two Previous, side by side: what holds of the world at each round's head. -/
structure Two (w0 w : World) (H : Nat) (nt : Nat → Nt) (vp vq : Value) (Ip Iq : List Nat) : Prop where
  p : Prev w (H + 1) (H + 3) (.slice none 0 0) vp 0 false nt Ip
  q : Prev w (H + 1 + 1) (H + 3) (.slice none 0 0) vq 0 false nt Iq
  far : ∀ b, vp.ownBlock = some b → vq.ownBlock ≠ some b
  bel : Below (H + 1) w0 w
  size : H + 3 ≤ w.heap.size

theorem Two.noteQ {w0 w w' : World} {H : Nat} {nt : Nat → Nt} {vp vq : Value} {Ip Iq : List Nat} {k : Nat} {e : Ending} (h : Two w0 w H nt vp vq Ip Iq)
    (hp : NotePost w (H + 1 + 1) (H + 3) (.slice none 0 0) vq 0 false nt Iq k e w') : ∃ gg cap, Two w0 w' H nt vp (.slice (some ⟨gg, 0, none⟩) (Iq.length + 1) cap) Ip (Iq ++ [k]) := by
  obtain ⟨-, gg, cap, hq, hat, ht⟩ := hp
  have hsz := h.size
  refine ⟨gg, cap, ?_, hq, ?_, ?_, ?_⟩
  · refine h.p.kept (ht.block _ (by omega) (by omega) ?_) (fun b hb => ht.block b (h.p.own.lt b hb).2 (by have := (h.p.own.lt b hb).1; omega) (fun e => h.far b hb e.symm))
    intro e
    have := (h.q.own.lt _ e.symm).1
    omega
  · intro b hb e
    have hbl := h.p.own.lt b hb
    have hgb : gg = b := by simpa [Value.ownBlock] using e
    rcases hat with hat | hat
    · rw [hgb] at hat; exact h.far b hb hat
    · omega
  · refine h.bel.trans ⟨ht.os, ht.tape, ht.output, ht.size, fun j hj => ht.block j (by omega) (by omega) ?_⟩
    intro e
    have := (h.q.own.lt _ e.symm).1
    omega
  · have := ht.size; omega

theorem Two.noteP {w0 w w' : World} {H : Nat} {nt : Nat → Nt} {vp vq : Value} {Ip Iq : List Nat} {k : Nat} {e : Ending} (h : Two w0 w H nt vp vq Ip Iq)
    (hp : NotePost w (H + 1) (H + 3) (.slice none 0 0) vp 0 false nt Ip k e w') : ∃ gg cap, Two w0 w' H nt (.slice (some ⟨gg, 0, none⟩) (Ip.length + 1) cap) vq (Ip ++ [k]) Iq := by
  obtain ⟨-, gg, cap, hq, hat, ht⟩ := hp
  have hsz := h.size
  refine ⟨gg, cap, hq, ?_, ?_, ?_, ?_⟩
  · refine h.q.kept (ht.block _ (by omega) (by omega) ?_) (fun b hb => ht.block b (h.q.own.lt b hb).2 (by have := (h.q.own.lt b hb).1; omega) (fun e => h.far b e.symm hb))
    intro e
    have := (h.p.own.lt _ e.symm).1
    omega
  · intro b hb e
    have hgb : gg = b := by simpa [Value.ownBlock] using hb
    have hbl := h.q.own.lt b e
    rcases hat with hat | hat
    · rw [hgb] at hat; exact h.far b hat e
    · omega
  · refine h.bel.trans ⟨ht.os, ht.tape, ht.output, ht.size, fun j hj => ht.block j (by omega) (by omega) ?_⟩
    intro e
    have := (h.p.own.lt _ e.symm).1
    omega
  · have := ht.size; omega

theorem Two.drew {w0 w : World} {H : Nat} {nt : Nat → Nt} {vp vq : Value} {Ip Iq : List Nat} (h : Two w0 w H nt vp vq Ip Iq) : Two w0 w.drew H nt vp vq Ip Iq :=
  ⟨h.p.drew, h.q.drew, h.far, h.bel.drew, h.size⟩

theorem two_start (w : World) (o : Obj) (nt : Nat → Nt) :
    Two (w.alloc o) (((w.alloc o).alloc (.cells #[.slice none 0 0, .slice none 0 0, .int .i64 0, .bool false] 58)).alloc (.cells #[.slice none 0 0, .slice none 0 0, .int .i64 0, .bool false] 58)) w.heap.size nt (.slice none 0 0) (.slice none 0 0) [] [] := by
  have hp := prev_new (w.alloc o) none 0 0 0 false nt (w.heap.size + 3)
  have hq := prev_new ((w.alloc o).alloc (.cells #[.slice none 0 0, .slice none 0 0, .int .i64 0, .bool false] 58)) none 0 0 0 false nt (w.heap.size + 3)
  simp only [World.size_alloc] at hp hq
  refine ⟨?_, hq, fun b hb => by simp [Value.ownBlock] at hb, ?_, by simp⟩
  · exact hp.kept (Below.heap_alloc _ _ _ (by simp)) (fun b hb => by simp [Value.ownBlock] at hb)
  · exact ((Below.refl _ _).alloc (by simp) _).alloc (by simp) _

set_option maxRecDepth 100000 in
set_option maxHeartbeats 3200000 in
theorem apart_walk (a0 : Option Addr) (n0 c0 : Nat) (a1 : Option Addr) (n1 c1 : Nat) (a2 : Option Addr) (n2 c2 : Nat) (S E : Nat → Int) (T : Nat → Bool) (w : World)
    (h0 : CellsAt w a0 n0 (fun j => .int .i64 (S j))) (h1 : CellsAt w a1 n1 (fun j => .int .i64 (E j))) (h2 : CellsAt w a2 n2 (fun j => .bool (T j)))
    (e0 : a0 = none → n0 = 0 ∧ c0 = 0) (e1 : a1 = none → n1 = 0 ∧ c1 = 0) (e2 : a2 = none → n2 = 0 ∧ c2 = 0)
    (l0 : n0 ≤ 131072) (l1 : n1 ≤ 131072) (l2 : n2 ≤ 131072) (ls : 8 * n0 + 8 * n1 + n2 ≤ 1048576) :
    Calls Try.prog 7 #[.slice a0 n0 c0, .slice a1 n1 c1, .slice a2 n2 c2] w fun e w' => e = .returned (.bool true) ∧ Below w.heap.size w w' := by
  have H0 : Hid (CellsAt w a0 n0 (fun j => .int .i64 (S j))) := h0
  have H1 : Hid (CellsAt w a1 n1 (fun j => .int .i64 (E j))) := h1
  have H2 : Hid (CellsAt w a2 n2 (fun j => .bool (T j))) := h2
  have E0 : Hid (a0 = none → n0 = 0 ∧ c0 = 0) := e0
  have E1 : Hid (a1 = none → n1 = 0 ∧ c1 = 0) := e1
  have E2 : Hid (a2 = none → n2 = 0 ∧ c2 = 0) := e2
  clear h0 h1 h2 e0 e1 e2
  have d0 : decide (131072 < (n0 : Int)) = false := decide_eq_false (by omega)
  have d1 : decide (131072 < (n1 : Int)) = false := decide_eq_false (by omega)
  have d2 : decide (131072 < (n2 : Int)) = false := decide_eq_false (by omega)
  go_enter Try.func7, Try.ntmps7
  go_wp2_with fail
  refine (bytes28_any _ _ _ _ _ _ _ _ _ _ (by unfold maxLen; omega) (by unfold maxLen; omega) (by unfold maxLen; omega)).mono ?_
  rintro e w1 ⟨⟨b, rfl⟩, hw⟩
  obtain rfl := hw.symm
  cases b
  · go_wp2_with fail
    go_ret
    exact ⟨rfl, Below.refl _ _⟩
  go_wp2_with fail
  refine (cloneInts_any a0 n0 c0 S w (by omega) H0.out E0.out).mono ?_
  rintro e w1 ⟨b0, rfl, hc0, -, -, hb1⟩
  have K0 : Hid (CellsAt w1 b0 n0 (fun j => .int .i64 (S j))) := hc0
  clear hc0
  go_wp2_with fail
  refine (cloneInts_any a1 n1 c1 E w1 (by omega) (H1.out.below hb1) E1.out).mono ?_
  rintro e w2 ⟨b1, rfl, hc1, -, -, hb2⟩
  have K1 : Hid (CellsAt w2 b1 n1 (fun j => .int .i64 (E j))) := hc1
  have hbw2 : Below w.heap.size w w2 := hb1.trans (hb2.mono hb1.size)
  clear hc1
  go_wp2_with fail
  refine (cloneBools_any a2 n2 c2 T w2 (by omega) (H2.out.below hbw2) E2.out).mono ?_
  rintro e w3 ⟨b2, rfl, hc2, -, -, hb3⟩
  have K2 : Hid (CellsAt w3 b2 n2 (fun j => .bool (T j))) := hc2
  have K1' : Hid (CellsAt w3 b1 n1 (fun j => .int .i64 (E j))) := K1.out.below hb3
  have K0' : Hid (CellsAt w3 b0 n0 (fun j => .int .i64 (S j))) := (K0.out.below hb2).below hb3
  have hbw3 : Below w.heap.size w w3 := hbw2.trans (hb3.mono hbw2.size)
  clear hc2 K0 K1 hb1 hb2 hb3 hbw2 H0 H1 H2 E0 E1 E2
  go_wp2_with fail
  refine (min_nat n1 n2 w3).mono ?_
  rintro e w4 ⟨rfl, hw⟩
  obtain rfl := hw.symm
  obtain ⟨m, hm, hm1, hm2⟩ : ∃ m : Nat, (if n1 < n2 then n1 else n2) = m ∧ m ≤ n1 ∧ m ≤ n2 := ⟨_, rfl, by split <;> omega, by split <;> omega⟩
  rw [hm]
  clear hm
  go_wp2_with fail
  refine (min_nat n0 m w3).mono ?_
  rintro e w4 ⟨rfl, hw⟩
  obtain rfl := hw.symm
  obtain ⟨n, hn, hn0, hnm⟩ : ∃ n : Nat, (if n0 < m then n0 else m) = n ∧ n ≤ n0 ∧ n ≤ m := ⟨_, rfl, by split <;> omega, by split <;> omega⟩
  rw [hn]
  clear hn
  have hmk := fun kl kc => run_make_row' (P := Try.prog) 34 9 (.string ByteArray.empty) 16 Try.underlying34 Try.info9 rfl kl kc n (by omega) (by omega)
  go_wp2_with (go_at_call 22; refine (newPrevious_any none 0 0 0 false _).mono ?_; rintro e w4 ⟨rfl, rfl⟩)
  clear hmk
  have hst := two_start w3 (.cells (madeCells #[.string ByteArray.empty] n) 9) (fun i => ⟨S i, E i, ⟨w3.heap.size, i, none⟩⟩)
  go_loopw [11] (fun i wr => ∃ (k : Nat) (vp vq : Value), k ≤ n ∧ i = .int .i64 k ∧ Two (w3.alloc (.cells (madeCells #[.string ByteArray.empty] n) 9)) wr w3.heap.size (fun i => ⟨S i, E i, ⟨w3.heap.size, i, none⟩⟩) vp vq (sel T false k) (sel T true k)) (fun i _ => n - (intOf i).toNat)
  case atStart => exact ⟨0, _, _, Nat.zero_le _, rfl, hst⟩
  case round =>
    clear hst
    obtain ⟨k, vp, vq, hk, rfl, htwo⟩ := hrel
    have HT : Hid (Two (w3.alloc (.cells (madeCells #[.string ByteArray.empty] n) 9)) wr w3.heap.size (fun i => ⟨S i, E i, ⟨w3.heap.size, i, none⟩⟩) vp vq (sel T false k) (sel T true k)) := htwo
    have hb3r : Below w3.heap.size w3 wr := ((Below.refl _ _).alloc (Nat.le_refl _) _).trans (htwo.bel.mono (by omega))
    clear htwo
    by_cases hlt : k < n
    · rcases K0'.out with hx | ⟨q0, o0, rfl, s0⟩
      · omega
      rcases K1'.out with hx | ⟨q1, o1, rfl, s1⟩
      · omega
      rcases K2.out with hx | ⟨q2, o2, rfl, s2⟩
      · omega
      have x0 : wr.cell? ⟨q0, o0 + k, none⟩ = some (.int .i64 (S k)) := below_keeps hb3r (s0 k (by omega))
      have x1 : wr.cell? ⟨q1, o1 + k, none⟩ = some (.int .i64 (E k)) := below_keeps hb3r (s1 k (by omega))
      have x2 : wr.cell? ⟨q2, o2 + k, none⟩ = some (.bool (T k)) := below_keeps hb3r (s2 k (by omega))
      have hk0 : (0 : Int) ≤ (k : Int) := by omega
      have hk1 : (k : Int) < (n : Int) := by omega
      have hk2 : (k : Int) < (n0 : Int) := by omega
      have hk3 : (k : Int) < (n1 : Int) := by omega
      have hk4 : (k : Int) < (n2 : Int) := by omega
      have y0 := s0 k (by omega)
      have y1 := s1 k (by omega)
      clear s0 s1 s2
      cases hT : T k
      · rw [hT] at x2
        have HTk : Hid (T k = false) := hT
        clear hT
        go_wp2_with fail
        go_region_held3 (fun w' => w'.cell? ⟨q0, o0 + k, none⟩ = some (.int .i64 (S k)) ∧ w'.cell? ⟨q1, o1 + k, none⟩ = some (.int .i64 (E k)))
          (first
            | go_keep
            | exact ⟨below_keeps hb4 y0, below_keeps hb4 y1⟩)
          ((go_at_call 23; refine (zzNote_any (w3.heap.size + 1) (w3.heap.size + 3) (.slice none 0 0) vp 0 false (fun i => ⟨S i, E i, ⟨w3.heap.size, i, none⟩⟩) (sel T false k) k _ (by exact HT.out.drew.p) (by omega) (by exact HT.out.size) (by have := sel_le T false k; omega)).mono ?_; rintro e w' ⟨rfl, hnp⟩; obtain ⟨gg, cap, ht2⟩ := HT.out.drew.noteP ⟨rfl, hnp⟩; have hb4 : Below w3.heap.size w3 w' := ((Below.refl _ _).alloc (Nat.le_refl _) _).trans (ht2.bel.mono (by omega)); clear hnp))
        go_wp2_with fail
        go_roundw
        case rel => exact ⟨k + 1, _, vq, by omega, by go_num, by rw [sel_yes HTk.out, sel_no (b := true) (by rw [HTk.out]; simp)]; exact ht2⟩
        case measure => simp [intOf]; omega
      · rw [hT] at x2
        have HTk : Hid (T k = true) := hT
        clear hT
        go_wp2_with fail
        go_region_held3 (fun w' => w'.cell? ⟨q0, o0 + k, none⟩ = some (.int .i64 (S k)) ∧ w'.cell? ⟨q1, o1 + k, none⟩ = some (.int .i64 (E k)))
          (first
            | go_keep
            | exact ⟨below_keeps hb4 y0, below_keeps hb4 y1⟩)
          ((go_at_call 23; refine (zzNote_any (w3.heap.size + 1 + 1) (w3.heap.size + 3) (.slice none 0 0) vq 0 false (fun i => ⟨S i, E i, ⟨w3.heap.size, i, none⟩⟩) (sel T true k) k _ (by exact HT.out.drew.q) (by omega) (by exact HT.out.size) (by have := sel_le T true k; omega)).mono ?_; rintro e w' ⟨rfl, hnp⟩; obtain ⟨gg, cap, ht2⟩ := HT.out.drew.noteQ ⟨rfl, hnp⟩; have hb4 : Below w3.heap.size w3 w' := ((Below.refl _ _).alloc (Nat.le_refl _) _).trans (ht2.bel.mono (by omega)); clear hnp))
        go_wp2_with fail
        go_roundw
        case rel => exact ⟨k + 1, vp, _, by omega, by go_num, by rw [sel_yes HTk.out, sel_no (b := false) (by rw [HTk.out]; simp)]; exact ht2⟩
        case measure => simp [intOf]; omega
    · obtain rfl : k = n := by omega
      have htwo := HT.out
      clear HT
      go_wp2_with fail
      go_loopw [12, 13, 14] (fun x y i wq => ∃ j : Nat, j ≤ k ∧ i = .int .i64 j ∧ x = .int .i64 (sel T false j).length ∧ y = .int .i64 (sel T true j).length ∧ Below wr.heap.size wr wq) (fun _ _ i _ => k - (intOf i).toNat)
      case atStart => exact ⟨0, Nat.zero_le _, rfl, rfl, rfl, Below.refl _ _⟩
      case round =>
        obtain ⟨j, hj, rfl, rfl, rfl, hbq⟩ := hrel
        have hb3q : Below w3.heap.size w3 wr := hb3r.trans (hbq.mono hb3r.size)
        by_cases hlt2 : j < k
        · rcases K0'.out with hx | ⟨q0, o0, rfl, s0⟩
          · omega
          rcases K1'.out with hx | ⟨q1, o1, rfl, s1⟩
          · omega
          rcases K2.out with hx | ⟨q2, o2, rfl, s2⟩
          · omega
          have x0 : wr.cell? ⟨q0, o0 + j, none⟩ = some (.int .i64 (S j)) := below_keeps hb3q (s0 j (by omega))
          have x1 : wr.cell? ⟨q1, o1 + j, none⟩ = some (.int .i64 (E j)) := below_keeps hb3q (s1 j (by omega))
          have x2 : wr.cell? ⟨q2, o2 + j, none⟩ = some (.bool (T j)) := below_keeps hb3q (s2 j (by omega))
          have hk0 : (0 : Int) ≤ (j : Int) := by omega
          have hk1 : (j : Int) < (k : Int) := by omega
          have hk2 : (j : Int) < (n0 : Int) := by omega
          have hk3 : (j : Int) < (n1 : Int) := by omega
          have hk4 : (j : Int) < (n2 : Int) := by omega
          clear s0 s1 s2
          cases hT : T j
          · rw [hT] at x2
            have HTj : Hid (T j = false) := hT
            clear hT
            have hl2 : (sel T false j).length < (sel T false k).length := sel_lt hlt2 HTj.out
            have hlk := sel_le T false k
            have hprev := htwo.p.below hbq
            have hpat : Hid ((sel T false k)[(sel T false j).length]? = some j) := sel_at hlt2 HTj.out
            clear htwo
            go_wp2_with fail
            refine (notedLen_any _ _ _ _ _ _ _ _ _ hprev).mono ?_
            rintro e w7 ⟨rfl, hw⟩
            obtain rfl := hw.symm
            go_wp2_with fail
            refine (notedAt_any _ _ _ _ _ _ _ _ _ _ _ hprev hpat.out (by omega)).mono ?_
            rintro e w8 ⟨rfl, hb7⟩
            have hb8 := hbq.trans (hb7.mono hbq.size)
            have z0 : w8.cell? ⟨q0, o0 + j, none⟩ = some (.int .i64 (S j)) := below_keeps hb7 x0
            have z1 : w8.cell? ⟨q1, o1 + j, none⟩ = some (.int .i64 (E j)) := below_keeps hb7 x1
            clear x0 x1 x2 hprev hb7
            have hpp := neq_ptr_self
            go_wp2_with fail
            go_roundw
            case rel => exact ⟨j + 1, by omega, by go_num, by rw [sel_yes HTj.out, List.length_append]; go_num, by rw [sel_no (b := true) (by rw [HTj.out]; simp)], hb8⟩
            case measure => simp [intOf]; omega
          · rw [hT] at x2
            have HTj : Hid (T j = true) := hT
            clear hT
            have hl2 : (sel T true j).length < (sel T true k).length := sel_lt hlt2 HTj.out
            have hlk := sel_le T true k
            have hprev := htwo.q.below hbq
            have hpat : Hid ((sel T true k)[(sel T true j).length]? = some j) := sel_at hlt2 HTj.out
            clear htwo
            go_wp2_with fail
            refine (notedLen_any _ _ _ _ _ _ _ _ _ hprev).mono ?_
            rintro e w7 ⟨rfl, hw⟩
            obtain rfl := hw.symm
            go_wp2_with fail
            refine (notedAt_any _ _ _ _ _ _ _ _ _ _ _ hprev hpat.out (by omega)).mono ?_
            rintro e w8 ⟨rfl, hb7⟩
            have hb8 := hbq.trans (hb7.mono hbq.size)
            have z0 : w8.cell? ⟨q0, o0 + j, none⟩ = some (.int .i64 (S j)) := below_keeps hb7 x0
            have z1 : w8.cell? ⟨q1, o1 + j, none⟩ = some (.int .i64 (E j)) := below_keeps hb7 x1
            clear x0 x1 x2 hprev hb7
            have hpp := neq_ptr_self
            go_wp2_with fail
            go_roundw
            case rel => exact ⟨j + 1, by omega, by go_num, by rw [sel_no (b := false) (by rw [HTj.out]; simp)], by rw [sel_yes HTj.out, List.length_append]; go_num, hb8⟩
            case measure => simp [intOf]; omega
        · obtain rfl : j = k := by omega
          have hp := htwo.p.below hbq
          have hq := htwo.q.below hbq
          clear htwo
          go_wp2_with fail
          refine (notedLen_any _ _ _ _ _ _ _ _ _ hp).mono ?_
          rintro e w7 ⟨rfl, hw⟩
          obtain rfl := hw.symm
          have hs1 : (((sel T false j).length : Int) == ((sel T false j).length : Int)) = true := by simp
          go_wp2_with fail
          refine (notedLen_any _ _ _ _ _ _ _ _ _ hq).mono ?_
          rintro e w7 ⟨rfl, hw⟩
          obtain rfl := hw.symm
          go_wp2_with fail
          go_ret
          exact ⟨by simp, hbw3.trans (hb3q.mono hbw3.size)⟩

end Go.Proofs.Qxb6616402a
