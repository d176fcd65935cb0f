import Derived.Test.Qxb6616402aNull3
namespace Go.Proofs.Qxb6616402a
open Go.RowKit
set_option linter.unusedVariables false

/-! ### THE PLAIN LAW: no Go in sight -/

theorem skips_one {B : Nat → Int} {n i p q : Nat} (h : Skips B n i p) (k : Skips B n i q) : p = q := by
  obtain ⟨h1, h2, h3, h4⟩ := h
  obtain ⟨k1, k2, k3, k4⟩ := k
  rcases Nat.lt_trichotomy p q with l | l | l
  · have := k3 p h1 l; have := h4 (by omega); simp_all
  · exact l
  · have := h3 q k1 l; have := k4 (by omega); simp_all

theorem skips_cut {B : Nat → Int} {n k i q : Nat} (h : Skips B n i q) (hik : i ≤ k) (hkn : k ≤ n) : Skips B k i (if q < k then q else k) := by
  obtain ⟨h1, h2, h3, h4⟩ := h
  by_cases c : q < k
  · rw [if_pos c]; exact ⟨h1, by omega, h3, fun _ => h4 (by omega)⟩
  · rw [if_neg c]; exact ⟨hik, Nat.le_refl _, fun j a b => h3 j a (by omega), fun h => absurd h (Nat.lt_irrefl _)⟩

theorem reads_le {B : Nat → Int} {n i : Nat} {ok : Bool} {x : Nat} (h : Reads B n i ok x) : x ≤ n := by
  obtain ⟨q, hs, ⟨hN, _, rfl⟩ | ⟨_, _, rfl⟩⟩ := h
  · exact hN.1
  · exact hs.2.1

/-- Where the word stands at the very start it is read. -/
theorem reads_here {B : Nat → Int} {n i : Nat} {ok : Bool} {x : Nat} (h : Reads B n i ok x) (hN : NullAt B n i) : ok = true ∧ x = i + 4 := by
  have hs : Skips B n i i := ⟨Nat.le_refl _, by have := hN.1; omega, fun j a b => by omega, fun _ => by rw [hN.2.1]; decide⟩
  obtain ⟨q, hq, h⟩ := h
  obtain rfl := skips_one hq hs
  rcases h with ⟨_, h1, h2⟩ | ⟨h0, _, _⟩
  · exact ⟨h1, h2⟩
  · exact absurd hN h0

/-- Where neither white space nor an n stands at the start nothing is read. -/
theorem reads_not {B : Nat → Int} {n i : Nat} {ok : Bool} {x : Nat} (h : Reads B n i ok x) (hi : i < n) (h1 : isSp (B i) = false) (h2 : B i ≠ 110) : ok = false ∧ x = i := by
  have hs : Skips B n i i := ⟨Nat.le_refl _, by omega, fun j a b => by omega, fun _ => h1⟩
  obtain ⟨q, hq, h⟩ := h
  obtain rfl := skips_one hq hs
  rcases h with ⟨hN, _, _⟩ | ⟨_, h1, h2⟩
  · exact absurd hN.2.1 h2
  · exact ⟨h1, h2⟩

theorem reads_cut {B : Nat → Int} {n k i : Nat} {okF okC : Bool} {xF xC : Nat} (hF : Reads B n i okF xF) (hC : Reads B k i okC xC) (hik : i ≤ k) (hkn : k ≤ n) :
    (okF = true ∧ okC = true ∧ xF ≤ k ∧ xC = xF) ∨ (okF = true ∧ okC = false ∧ k < xF ∧ 4 ≤ xF ∧ (xC : Int) = if (xF : Int) - 4 < (k : Int) then (xF : Int) - 4 else (k : Int)) ∨
      (okF = false ∧ okC = false ∧ (xC : Int) = if (xF : Int) < (k : Int) then (xF : Int) else (k : Int)) := by
  obtain ⟨q, hq, hF⟩ := hF
  obtain ⟨r, hr, hC⟩ := hC
  have hrq := skips_one hr (skips_cut hq hik hkn)
  have hle := hq.2.1
  rcases hF with ⟨hN, rfl, rfl⟩ | ⟨hN, rfl, rfl⟩
  · by_cases c : q + 4 ≤ k
    · rw [if_pos (by omega)] at hrq
      subst hrq
      have hNk : NullAt B k r := ⟨c, hN.2⟩
      rcases hC with ⟨_, rfl, rfl⟩ | ⟨h0, _, _⟩
      · exact .inl ⟨rfl, rfl, c, rfl⟩
      · exact absurd hNk h0
    · have hNk : ¬ NullAt B k r := by
        intro h
        have := h.1
        by_cases cc : q < k
        · rw [if_pos cc] at hrq; omega
        · rw [if_neg cc] at hrq; omega
      rcases hC with ⟨h0, _, _⟩ | ⟨_, rfl, rfl⟩
      · exact absurd h0 hNk
      · refine .inr (.inl ⟨rfl, rfl, by omega, by omega, ?_⟩)
        by_cases cc : q < k
        · rw [if_pos cc] at hrq; rw [if_pos (by omega)]; omega
        · rw [if_neg cc] at hrq; rw [if_neg (by omega)]; omega
  · have hNk : ¬ NullAt B k r := by
      intro h
      by_cases cc : xF < k
      · rw [if_pos cc] at hrq; subst hrq; exact hN ⟨by have := h.1; omega, h.2⟩
      · rw [if_neg cc] at hrq; have := h.1; omega
    rcases hC with ⟨h0, _, _⟩ | ⟨_, rfl, rfl⟩
    · exact absurd h0 hNk
    · refine .inr (.inr ⟨rfl, rfl, ?_⟩)
      by_cases cc : xF < k
      · rw [if_pos cc] at hrq; rw [if_pos (by omega)]; omega
      · rw [if_neg cc] at hrq; rw [if_neg (by omega)]; omega

/-! ### THE WALK -/

theorem min_is (x y z : Int) (w : World) (h : z = if x < y then x else y) : Calls Try.prog 18 #[.int .i64 x, .int .i64 y] w fun e w' => e = .returned (.int .i64 z) ∧ w' = w := by
  rw [h]
  exact min_any x y w

theorem null_early (a : Option Addr) (n c : Nat) (x y : Int) (w : World) (hn : n ≤ maxLen)
    (h : 1048576 < n ∨ decide (x < 0) = true ∨ (decide (x < 0) = false ∧ decide ((n : Int) < x) = true) ∨ (decide (x < 0) = false ∧ decide ((n : Int) < x) = false ∧ decide (y < x) = true) ∨
      (decide (x < 0) = false ∧ decide ((n : Int) < x) = false ∧ decide (y < x) = false ∧ decide ((n : Int) < y) = true)) :
    Calls Try.prog 5 #[.slice a n c, .int .i64 x, .int .i64 y] w fun e w' => e = .returned (.bool true) ∧ Below w.heap.size w w' := by
  have hnn : n ≤ 9223372036854775807 := hn
  rcases h with h1 | h1 | ⟨h1, h2⟩ | ⟨h1, h2, h3⟩ | ⟨h1, h2, h3, h4⟩
  all_goals
    go_enter Try.func5, Try.ntmps5
    go_wp2_with fail
    refine (bytes14_any _ _ _ _ _ _ hn).mono ?_
    rintro e w1 ⟨⟨b, rfl⟩, hw⟩
    obtain rfl := hw.symm
    cases b
  all_goals go_wp2_with fail
  all_goals go_ret
  all_goals exact ⟨rfl, Below.refl _ _⟩

set_option maxRecDepth 100000 in
set_option maxHeartbeats 3200000 in
theorem null_walk (a : Option Addr) (n c i k : Nat) (B : Nat → Int) (w : World) (hn : n ≤ 1048576) (hcells : CellsAt w a n (fun j => .int .u8 (B j))) (ha : a = none → n = 0 ∧ c = 0)
    (hB : ∀ j, j < n → 0 ≤ B j ∧ B j ≤ 255) (hik : i ≤ k) (hkn : k ≤ n) :
    Calls Try.prog 5 #[.slice a n c, .int .i64 i, .int .i64 k] w fun e w' => e = .returned (.bool true) ∧ Below w.heap.size w w' := by
  have HB : Hid (∀ j, j < n → 0 ≤ B j ∧ B j ≤ 255) := hB
  have HA : Hid (a = none → n = 0 ∧ c = 0) := ha
  have HC : Hid (CellsAt w a n (fun j => .int .u8 (B j))) := hcells
  clear hB ha hcells
  have hn' : n ≤ maxLen := by unfold maxLen; omega
  have d1 : decide ((i : Int) < 0) = false := decide_eq_false (by omega)
  have d2 : decide ((n : Int) < (i : Int)) = false := decide_eq_false (by omega)
  have d3 : decide ((k : Int) < (i : Int)) = false := decide_eq_false (by omega)
  have d4 : decide ((n : Int) < (k : Int)) = false := decide_eq_false (by omega)
  go_enter Try.func5, Try.ntmps5
  go_wp2_with fail
  refine (bytes14_any _ _ _ _ _ _ hn').mono ?_
  rintro e w1 ⟨⟨b, rfl⟩, hw⟩
  obtain rfl := hw.symm
  cases b
  · go_wp2_with fail
    go_ret
    exact ⟨rfl, Below.refl _ _⟩
  go_wp2_with fail
  refine (cloneBytes_any a n c B w hn HC.out HA.out).mono ?_
  rintro e w1 ⟨a', rfl, hc1, hnil, hnil2, hb1⟩
  have HC1 : Hid (CellsAt w1 a' n (fun j => .int .u8 (B j))) := hc1
  clear hc1 hnil hnil2
  go_wp2_with fail
  refine (zzNull_any a' n n i B w1 hn (Nat.le_refl _) hn' (by omega) HC1.out HB.out).mono ?_
  rintro e w2 ⟨okF, xF, rfl, hF, hb2⟩
  have HF : Hid (Reads B n i okF xF) := hF
  clear hF
  have HC2 : Hid (CellsAt w2 a' n (fun j => .int .u8 (B j))) := HC1.out.below hb2
  have hbw2 : Below w.heap.size w w2 := hb1.trans (hb2.mono hb1.size)
  have hk0 : (0 : Int) ≤ (k : Int) := by omega
  have hk1 : (k : Int) ≤ (n : Int) := by omega
  go_wp2_with fail
  refine (zzNull_any a' k n i B w2 (by omega) hkn hn' hik (HC2.out.take hkn) (fun j hj => HB.out j (by omega))).mono ?_
  rintro e w3 ⟨okC, xC, rfl, hC, hb3⟩
  have hcut := reads_cut HF.out hC hik hkn
  have hxn := reads_le HF.out
  have hxk := reads_le hC
  clear hC
  have HC3 : Hid (CellsAt w3 a' n (fun j => .int .u8 (B j))) := HC2.out.below hb3
  have hbw : Below w.heap.size w w3 := hbw2.trans (hb3.mono hbw2.size)
  clear hb1 hb2 hb3 hbw2 HC HC1 HC2 HA
  rcases hcut with ⟨rfl, rfl, hle, hxx⟩ | ⟨rfl, rfl, hlt, h4, hxx⟩ | ⟨rfl, rfl, hxx⟩
  · have s3 : decide ((xF : Int) ≤ (k : Int)) = true := decide_eq_true (by omega)
    have s4 : ((xC : Int) == (xF : Int)) = true := by simp [hxx]
    clear hxx
    go_wp2_with fail
    refine (nullAt_any a' n n i B w3 hn HC3.out).mono ?_
    rintro e w4 ⟨hz, hw⟩
    obtain rfl := hw.symm
    have hcl := HC3.out
    rcases hz with ⟨hN, rfl⟩ | ⟨hN, rfl⟩
    · have hx := (reads_here HF.out hN).2
      have s1 : ((xF : Int) != (i : Int) + 4) = false := by simp [hx]
      clear hx hN
      by_cases hin : i < n
      · have t0 : decide ((i : Int) < (n : Int)) = true := decide_eq_true (by omega)
        rcases hcl with hcl | ⟨b, off, rfl, hcc⟩
        · omega
        have c0 : w3.cell? ⟨b, off + i, none⟩ = some (.int .u8 (B i)) := hcc i hin
        have hBi := HB.out i hin
        clear hcc
        cases hsp : isSp (B i)
        · by_cases hnn : B i = 110
          · have t1 : (B i != 110) = false := by simp [hnn]
            have HSP : Hid (isSp (B i) = false) := hsp
            clear hnn hsp
            go_wp2_with (go_at_call 17; refine (isSpace_any _ _ hBi.1 hBi.2).mono ?_; rintro e w' ⟨rfl, hw⟩; obtain rfl := hw.symm; rw [HSP.out])
            go_ret
            exact ⟨by simp, hbw⟩
          · have hx := (reads_not HF.out hin hsp hnn).1
            simp at hx
        · have HSP : Hid (isSp (B i) = true) := hsp
          clear hsp
          go_wp2_with (go_at_call 17; refine (isSpace_any _ _ hBi.1 hBi.2).mono ?_; rintro e w' ⟨rfl, hw⟩; obtain rfl := hw.symm; rw [HSP.out])
          go_ret
          exact ⟨by simp, hbw⟩
      · have t0 : decide ((i : Int) < (n : Int)) = false := decide_eq_false (by omega)
        go_wp2_with fail
        go_ret
        exact ⟨by simp, hbw⟩
    · clear hN
      by_cases hin : i < n
      · have t0 : decide ((i : Int) < (n : Int)) = true := decide_eq_true (by omega)
        rcases hcl with hcl | ⟨b, off, rfl, hcc⟩
        · omega
        have c0 : w3.cell? ⟨b, off + i, none⟩ = some (.int .u8 (B i)) := hcc i hin
        have hBi := HB.out i hin
        clear hcc
        cases hsp : isSp (B i)
        · by_cases hnn : B i = 110
          · have t1 : (B i != 110) = false := by simp [hnn]
            have HSP : Hid (isSp (B i) = false) := hsp
            clear hnn hsp
            go_wp2_with (go_at_call 17; refine (isSpace_any _ _ hBi.1 hBi.2).mono ?_; rintro e w' ⟨rfl, hw⟩; obtain rfl := hw.symm; rw [HSP.out])
            go_ret
            exact ⟨by simp, hbw⟩
          · have hx := (reads_not HF.out hin hsp hnn).1
            simp at hx
        · have HSP : Hid (isSp (B i) = true) := hsp
          clear hsp
          go_wp2_with (go_at_call 17; refine (isSpace_any _ _ hBi.1 hBi.2).mono ?_; rintro e w' ⟨rfl, hw⟩; obtain rfl := hw.symm; rw [HSP.out])
          go_ret
          exact ⟨by simp, hbw⟩
      · have t0 : decide ((i : Int) < (n : Int)) = false := decide_eq_false (by omega)
        go_wp2_with fail
        go_ret
        exact ⟨by simp, hbw⟩
  · have s3 : decide ((xF : Int) ≤ (k : Int)) = false := decide_eq_false (by omega)
    have hxC : Hid ((xC : Int) = if (xF : Int) - 4 < (k : Int) then (xF : Int) - 4 else (k : Int)) := hxx
    clear hxx
    go_wp2_with fail
    refine (nullAt_any a' n n i B w3 hn HC3.out).mono ?_
    rintro e w4 ⟨hz, hw⟩
    obtain rfl := hw.symm
    have hcl := HC3.out
    rcases hz with ⟨hN, rfl⟩ | ⟨hN, rfl⟩
    · have hx := (reads_here HF.out hN).2
      have s1 : ((xF : Int) != (i : Int) + 4) = false := by simp [hx]
      clear hx hN
      by_cases hin : i < n
      · have t0 : decide ((i : Int) < (n : Int)) = true := decide_eq_true (by omega)
        rcases hcl with hcl | ⟨b, off, rfl, hcc⟩
        · omega
        have c0 : w3.cell? ⟨b, off + i, none⟩ = some (.int .u8 (B i)) := hcc i hin
        have hBi := HB.out i hin
        clear hcc
        cases hsp : isSp (B i)
        · by_cases hnn : B i = 110
          · have t1 : (B i != 110) = false := by simp [hnn]
            have HSP : Hid (isSp (B i) = false) := hsp
            clear hnn hsp
            go_wp2_with (first | (go_at_call 17; refine (isSpace_any _ _ hBi.1 hBi.2).mono ?_; rintro e w' ⟨rfl, hw⟩; obtain rfl := hw.symm; rw [HSP.out]) | (go_at_call 18; refine (min_is _ _ _ _ hxC.out).mono ?_; rintro e w' ⟨rfl, hw⟩; obtain rfl := hw.symm))
            go_ret
            exact ⟨by simp, hbw⟩
          · have hx := (reads_not HF.out hin hsp hnn).1
            simp at hx
        · have HSP : Hid (isSp (B i) = true) := hsp
          clear hsp
          go_wp2_with (first | (go_at_call 17; refine (isSpace_any _ _ hBi.1 hBi.2).mono ?_; rintro e w' ⟨rfl, hw⟩; obtain rfl := hw.symm; rw [HSP.out]) | (go_at_call 18; refine (min_is _ _ _ _ hxC.out).mono ?_; rintro e w' ⟨rfl, hw⟩; obtain rfl := hw.symm))
          go_ret
          exact ⟨by simp, hbw⟩
      · have t0 : decide ((i : Int) < (n : Int)) = false := decide_eq_false (by omega)
        exfalso
        omega
    · clear hN
      by_cases hin : i < n
      · have t0 : decide ((i : Int) < (n : Int)) = true := decide_eq_true (by omega)
        rcases hcl with hcl | ⟨b, off, rfl, hcc⟩
        · omega
        have c0 : w3.cell? ⟨b, off + i, none⟩ = some (.int .u8 (B i)) := hcc i hin
        have hBi := HB.out i hin
        clear hcc
        cases hsp : isSp (B i)
        · by_cases hnn : B i = 110
          · have t1 : (B i != 110) = false := by simp [hnn]
            have HSP : Hid (isSp (B i) = false) := hsp
            clear hnn hsp
            go_wp2_with (first | (go_at_call 17; refine (isSpace_any _ _ hBi.1 hBi.2).mono ?_; rintro e w' ⟨rfl, hw⟩; obtain rfl := hw.symm; rw [HSP.out]) | (go_at_call 18; refine (min_is _ _ _ _ hxC.out).mono ?_; rintro e w' ⟨rfl, hw⟩; obtain rfl := hw.symm))
            go_ret
            exact ⟨by simp, hbw⟩
          · have hx := (reads_not HF.out hin hsp hnn).1
            simp at hx
        · have HSP : Hid (isSp (B i) = true) := hsp
          clear hsp
          go_wp2_with (first | (go_at_call 17; refine (isSpace_any _ _ hBi.1 hBi.2).mono ?_; rintro e w' ⟨rfl, hw⟩; obtain rfl := hw.symm; rw [HSP.out]) | (go_at_call 18; refine (min_is _ _ _ _ hxC.out).mono ?_; rintro e w' ⟨rfl, hw⟩; obtain rfl := hw.symm))
          go_ret
          exact ⟨by simp, hbw⟩
      · have t0 : decide ((i : Int) < (n : Int)) = false := decide_eq_false (by omega)
        exfalso
        omega
  · have hxC : Hid ((xC : Int) = if (xF : Int) < (k : Int) then (xF : Int) else (k : Int)) := hxx
    clear hxx
    go_wp2_with fail
    refine (nullAt_any a' n n i B w3 hn HC3.out).mono ?_
    rintro e w4 ⟨hz, hw⟩
    obtain rfl := hw.symm
    have hcl := HC3.out
    rcases hz with ⟨hN, rfl⟩ | ⟨hN, rfl⟩
    · have hx := (reads_here HF.out hN).1
      simp at hx
    · clear hN
      by_cases hin : i < n
      · have t0 : decide ((i : Int) < (n : Int)) = true := decide_eq_true (by omega)
        rcases hcl with hcl | ⟨b, off, rfl, hcc⟩
        · omega
        have c0 : w3.cell? ⟨b, off + i, none⟩ = some (.int .u8 (B i)) := hcc i hin
        have hBi := HB.out i hin
        clear hcc
        cases hsp : isSp (B i)
        · by_cases hnn : B i = 110
          · have t1 : (B i != 110) = false := by simp [hnn]
            have HSP : Hid (isSp (B i) = false) := hsp
            clear hnn hsp
            go_wp2_with (first | (go_at_call 17; refine (isSpace_any _ _ hBi.1 hBi.2).mono ?_; rintro e w' ⟨rfl, hw⟩; obtain rfl := hw.symm; rw [HSP.out]) | (go_at_call 18; refine (min_is _ _ _ _ hxC.out).mono ?_; rintro e w' ⟨rfl, hw⟩; obtain rfl := hw.symm))
            go_ret
            exact ⟨by simp, hbw⟩
          · have hx := (reads_not HF.out hin hsp hnn).2
            have t1 : (B i != 110) = true := by simp [hnn]
            have t2 : ((xF : Int) != (i : Int)) = false := by simp [hx]
            have HSP : Hid (isSp (B i) = false) := hsp
            clear hnn hsp hx
            go_wp2_with (first | (go_at_call 17; refine (isSpace_any _ _ hBi.1 hBi.2).mono ?_; rintro e w' ⟨rfl, hw⟩; obtain rfl := hw.symm; rw [HSP.out]) | (go_at_call 18; refine (min_is _ _ _ _ hxC.out).mono ?_; rintro e w' ⟨rfl, hw⟩; obtain rfl := hw.symm))
            go_ret
            exact ⟨by simp, hbw⟩
        · have HSP : Hid (isSp (B i) = true) := hsp
          clear hsp
          go_wp2_with (first | (go_at_call 17; refine (isSpace_any _ _ hBi.1 hBi.2).mono ?_; rintro e w' ⟨rfl, hw⟩; obtain rfl := hw.symm; rw [HSP.out]) | (go_at_call 18; refine (min_is _ _ _ _ hxC.out).mono ?_; rintro e w' ⟨rfl, hw⟩; obtain rfl := hw.symm))
          go_ret
          exact ⟨by simp, hbw⟩
      · have t0 : decide ((i : Int) < (n : Int)) = false := decide_eq_false (by omega)
        go_wp2_with (go_at_call 18; refine (min_is _ _ _ _ hxC.out).mono ?_; rintro e w' ⟨rfl, hw⟩; obtain rfl := hw.symm)
        go_ret
        exact ⟨by simp, hbw⟩

end Go.Proofs.Qxb6616402a
