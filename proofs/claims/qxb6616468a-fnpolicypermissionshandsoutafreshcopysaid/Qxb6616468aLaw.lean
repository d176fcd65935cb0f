import Derived.Test.Qxb6616468aClone
import Derived.Deep.Cut
namespace Go.Proofs.Qxb6616468a
open Go.RowKit
set_option linter.unusedVariables false

theorem splice_row {L cs : List Value} (h : L.length = cs.length) : splice L 0 cs = cs := by
  simp [splice, h]

theorem copied {w : World} {g n : Nat} {X : Nat → ByteArray} (h : w.heap[g]? = some (.cells (strRow X n).toArray 9 (0, 0))) : Filled w g 9 n n (fun j => .string (X j)) := by
  refine ⟨fun j => .string (X j), ⟨_, h, by simp [strRow_len], fun i hi => ?_⟩, fun i hi => rfl⟩
  have := strRow_at X n i hi
  simpa using this

theorem made_heap (w : World) (n : Nat) : (w.alloc (.cells (madeCells #[.string ByteArray.empty] n) 9)).heap[w.heap.size]? = some (.cells (madeCells #[.string ByteArray.empty] n).toList.toArray 9 (0, 0)) := by
  rw [Array.toArray_toList]
  exact heap_alloc_new w _

theorem copy_pos {w : World} {a : Option Addr} {n : Nat} {X : Nat → ByteArray} {o : Obj} (hc : CellsAt w a n (fun j => .string (X j))) :
    0 < (strRow X n).length → (some ⟨w.heap.size, 0, none⟩ : Option Addr) = some ⟨w.heap.size, 0, none⟩ ∧ ∃ ad, a = some ad ∧ ∀ j v, (strRow X n)[j]? = some v → (w.alloc o).cell? (ad.add j) = some v := by
  intro h0
  rw [strRow_len] at h0
  refine ⟨rfl, ?_⟩
  rcases hc with hx | ⟨b, off, ha, hcc⟩
  · omega
  · refine ⟨_, ha, fun j v hv => ?_⟩
    obtain ⟨hj, rfl⟩ := strRow_lt hv
    have e : (⟨b, off, none⟩ : Addr).add j = ⟨b, off + j, none⟩ := by unfold Addr.add; split <;> simp_all
    rw [e]
    exact below_keeps ((Below.refl _ _).alloc (Nat.le_refl _) _) (hcc j hj)

set_option maxRecDepth 100000 in
set_option maxHeartbeats 3200000 in
theorem law_walk (a : Option Addr) (n c : Nat) (X : Nat → ByteArray) (w : World) (hn : n ≤ 65536) (hc : CellsAt w a n (fun j => .string (X j))) (hX : ∀ j, j < n → (X j).size ≤ maxLen) :
    Calls Try.prog 3 #[.slice a n c] w fun e w' => e = .returned (.bool true) ∧ Below w.heap.size w w' := by
  have HC : Hid (CellsAt w a n (fun j => .string (X j))) := hc
  have HX : Hid (∀ j, j < n → (X j).size ≤ maxLen) := hX
  clear hc hX
  have hn' : n ≤ maxLen := by unfold maxLen; omega
  go_enter Try.func3, Try.ntmps3
  go_wp2_with fail
  refine (bytes4_any _ _ _ X _ hn' HC.out HX.out).mono ?_
  rintro e w1 ⟨⟨b, rfl⟩, hw⟩
  obtain rfl := hw.symm
  cases b
  · go_wp2_with fail
    go_ret
    exact ⟨rfl, Below.refl _ _⟩
  go_wp2_with fail
  refine (stringsBytes_any _ _ _ X _ hn' HC.out HX.out).mono ?_
  rintro e w1 ⟨⟨s, rfl, hsm⟩, hw⟩
  obtain rfl := hw.symm
  by_cases hs : 1048576 < s
  · clear hsm
    go_wp2_with fail
    go_ret
    exact ⟨rfl, Below.refl _ _⟩
  have HS : Hid (∀ j, j < n → (X j).size ≤ 1048576) := hsm (by omega)
  clear hsm HX
  go_wp2_with fail
  go_loop [3] (fun i => ∃ k : Nat, k ≤ n ∧ i = .int .i64 k) (fun i => n - (intOf i).toNat)
  case atStart => exact ⟨0, Nat.zero_le _, rfl⟩
  case round =>
    obtain ⟨k, hk, rfl⟩ := hrel
    by_cases hlt : k < n
    · rcases HC.out with hx | ⟨b, off, rfl, hcc⟩
      · omega
      have x0 : w.cell? ⟨b, off + k, none⟩ = some (.string (X k)) := hcc k hlt
      have hXk := HS.out k hlt
      clear hcc
      go_wp2_with fail
      refine (hasDot_any (X k) w hXk).mono ?_
      rintro e w1 ⟨⟨b, rfl⟩, hw⟩
      obtain rfl := hw.symm
      cases b
      · go_wp2_with fail
        go_ret
        exact ⟨rfl, Below.refl _ _⟩
      · go_wp2_with fail
        go_round
        case rel => exact ⟨k + 1, by omega, by go_num⟩
        case measure => simp [intOf]; omega
    · have hmk := fun kl kc => run_make_row' (P := Try.prog) 22 9 (.string ByteArray.empty) 16 Try.underlying22 Try.info9 rfl kl kc n (by omega) (by omega)
      have hln : (strRow X n).length = Nat.min n n := by rw [strRow_len]; exact (Nat.min_self n).symm
      go_upto_region 13 with fail
      go_wp2_with (refine wpList_copy_splice (by rfl) _ _ 22 22 (by rfl) 9 Try.underlying22 Try.size9 (some ⟨w.heap.size, 0, none⟩) a n n n c (by rfl) (by rfl) w.heap.size 0 (madeCells #[.string ByteArray.empty] n).toList 9 (made_heap w n) (strRow X n) hln (copy_pos HC.out) (by simp [strRow_len, size_madeCells]) (strRow_one X n) w.heap.size w ((Below.refl _ _).alloc (Nat.le_refl _) _) (Nat.le_refl _) ?_; intro w2 hrow2 hb2)
      have hkept : Hid (CellsAt w2 (some ⟨w.heap.size, 0, none⟩) n (fun j => .string (X j))) := by
        have h := hrow2.out
        rw [splice_row (by rw [strRow_len]; simp [size_madeCells])] at h
        exact filled_cells (copied h)
      clear hrow2 hmk hln
      refine (newPolicy_any _ _ _ w2).mono ?_
      rintro e w3 ⟨⟨rfl, hpol⟩, hb3⟩
      have hgl : w2.heap.size < w3.heap.size := World.block_lt_of_cell? w3 _ hpol
      have hkept3 : Hid (CellsAt w3 (some ⟨w.heap.size, 0, none⟩) n (fun j => .string (X j))) := hkept.out.below hb3
      have hbw3 : Below w.heap.size w w3 := hb2.trans (hb3.mono hb2.size)
      clear hkept hb2 hb3
      generalize w2.heap.size = g at hpol hgl ⊢
      go_wp2_with fail
      refine (permissions_any g w.heap.size 0 n n X w3 (by omega) hpol hkept3.out).mono ?_
      rintro e w4 ⟨g1, cap1, rfl, hcap1, hg1, hg1l, hf1, hb4⟩
      have hnn : ((n : Int) != (n : Int)) = false := by simp
      have hF0 : Hid (Filled w4 g1 9 cap1 0 (fun j => .string (X j ++ ⟨#[35]⟩))) := by
        obtain ⟨f, hr, -⟩ := hf1
        exact ⟨f, hr, fun i hi => absurd hi (Nat.not_lt_zero _)⟩
      clear hf1
      go_wp2_with fail
      go_loopw [7] (fun i wr => ∃ k : Nat, k ≤ n ∧ i = .int .i64 k ∧ Filled wr g1 9 cap1 k (fun j => .string (X j ++ ⟨#[35]⟩)) ∧ Below w3.heap.size w3 wr) (fun i _ => n - (intOf i).toNat)
      case atStart => exact ⟨0, Nat.zero_le _, rfl, hF0.out, hb4⟩
      case round =>
        clear hF0 hb4
        obtain ⟨k, hk, rfl, hf, hbr⟩ := hrel
        have HF : Hid (Filled wr g1 9 cap1 k (fun j => .string (X j ++ ⟨#[35]⟩))) := hf
        have hbwr : Below w.heap.size w wr := hbw3.trans (hbr.mono hbw3.size)
        by_cases hlt : k < n
        · rcases HC.out with hx | ⟨b, off, rfl, hcc⟩
          · omega
          obtain ⟨f, hrow, -⟩ := hf
          have x0 : wr.cell? ⟨b, off + k, none⟩ = some (.string (X k)) := below_keeps hbwr (hcc k hlt)
          have y0 : wr.cell? ⟨g1, k, none⟩ = some (f k) := hrow.cell (by omega)
          have z0 : wr.frozen? ⟨g1, k, none⟩ = false := hrow.frozen _
          have hXk := HS.out k hlt
          clear hcc hrow
          go_wp2_with fail
          go_roundw
          case rel => exact ⟨k + 1, by omega, by go_num, filled_step HF.out, hbr.setCell hg1 _⟩
          case measure => simp [intOf]; omega
        · obtain rfl : n = k := by omega
          have hfirst : Hid (∃ f, wr.rowIs g1 9 cap1 f ∧ ∀ i, i < n → f i = .string (X i ++ ⟨#[35]⟩)) := hf
          have hpol5 : wr.cell? ⟨g, 2, none⟩ = some (.slice (some ⟨w.heap.size, 0, none⟩) n n) := below_keeps hbr hpol
          clear hf HF
          go_wp2_with fail
          refine (permissions_any g w.heap.size 0 n n X wr (by omega) hpol5 (hkept3.out.below hbr)).mono ?_
          rintro e w6 ⟨g2, cap2, rfl, hcap2, hg2, hg2l, hf2, hb6⟩
          have hsec : Hid (CellsAt w6 (some ⟨g2, 0, none⟩) n (fun j => .string (X j))) := by
            obtain ⟨f, hr, hf⟩ := hf2
            exact .inr ⟨g2, 0, rfl, fun j hj => by rw [Nat.zero_add, hr.cell (by omega), hf j hj]⟩
          have hfir : Hid (CellsAt w6 (some ⟨g1, 0, none⟩) n (fun j => .string (X j ++ ⟨#[35]⟩))) := by
            obtain ⟨f, hr, hf⟩ := hfirst.out
            refine CellsAt.below (w := wr) (.inr ⟨g1, 0, rfl, fun j hj => by rw [Nat.zero_add, hr.cell (by omega), hf j hj]⟩) hb6
          have hbw6 : Below w.heap.size w w6 := hbwr.trans (hb6.mono hbwr.size)
          clear hf2 hfirst hb6 hbr hpol hpol5 hbwr
          go_wp2_with fail
          go_loopw [9] (fun i wq => ∃ k m : Nat, k ≤ n ∧ i = .int .i64 k ∧ wq = w6.drewN m) (fun i _ => n - (intOf i).toNat)
          case atStart => exact ⟨0, 0, Nat.zero_le _, rfl, rfl⟩
          case round =>
            obtain ⟨k, m, hk2, rfl, rfl⟩ := hrel
            by_cases hlt2 : k < n
            · rcases HC.out with hx | ⟨b, off, rfl, hcc⟩
              · omega
              rcases hsec.out with hx | ⟨b2, o2, h2, s2⟩
              · omega
              obtain ⟨rfl, rfl⟩ : g2 = b2 ∧ 0 = o2 := by simpa using h2
              rcases hfir.out with hx | ⟨b1, o1, h1, s1⟩
              · omega
              obtain ⟨rfl, rfl⟩ : g1 = b1 ∧ 0 = o1 := by simpa using h1
              have x0 : w6.cell? ⟨b, off + k, none⟩ = some (.string (X k)) := below_keeps hbw6 (hcc k hlt2)
              have x1 : w6.cell? ⟨g1, k, none⟩ = some (.string (X k ++ ⟨#[35]⟩)) := by have := s1 k hlt2; rwa [Nat.zero_add] at this
              have x2 : w6.cell? ⟨g2, k, none⟩ = some (.string (X k)) := by have := s2 k hlt2; rwa [Nat.zero_add] at this
              have hXk := HS.out k hlt2
              have hk0 : (0 : Int) ≤ (k : Int) := by omega
              have hk1 : (k : Int) < (n : Int) := by omega
              have f1 : ((X k).toList == (X k).toList) = true := by simp
              have f2 : ((X k ++ ⟨#[35]⟩ : ByteArray).toList == (X k ++ ⟨#[35]⟩ : ByteArray).toList) = true := by simp
              clear hcc s1 s2 h1 h2
              go_wp2_with fail
              go_quiet (fail)
              go_wp2_with fail
              go_roundw
              case rel => exact ⟨k + 1, m + nq, by omega, by go_num, rfl⟩
              case measure => simp [intOf]; omega
            · go_wp2_with fail
              go_ret
              exact ⟨rfl, ⟨hbw6.os, hbw6.tape, hbw6.output, hbw6.size, hbw6.block⟩⟩

set_option maxRecDepth 100000 in
theorem law_early (a : Option Addr) (n c : Nat) (X : Nat → ByteArray) (w : World) (hn : n ≤ maxLen) (hbig : 65536 < n) (hc : CellsAt w a n (fun j => .string (X j))) (hX : ∀ j, j < n → (X j).size ≤ maxLen) :
    Calls Try.prog 3 #[.slice a n c] w fun e w' => e = .returned (.bool true) ∧ Below w.heap.size w w' := by
  have HC : Hid (CellsAt w a n (fun j => .string (X j))) := hc
  have HX : Hid (∀ j, j < n → (X j).size ≤ maxLen) := hX
  clear hc hX
  have hnn : n ≤ 9223372036854775807 := hn
  go_enter Try.func3, Try.ntmps3
  go_wp2_with fail
  refine (bytes4_any _ _ _ X _ hn HC.out HX.out).mono ?_
  rintro e w1 ⟨⟨b, rfl⟩, hw⟩
  obtain rfl := hw.symm
  cases b
  all_goals go_wp2_with fail
  all_goals go_ret
  all_goals exact ⟨rfl, Below.refl _ _⟩

end Go.Proofs.Qxb6616468a
