import Derived.Test.Qxb6616402aNull
namespace Go.Proofs.Qxb6616402a
open Go.RowKit
set_option linter.unusedVariables false

/-- The word stands at q. -/
def NullAt (B : Nat → Int) (n q : Nat) : Prop := q + 4 ≤ n ∧ B q = 110 ∧ B (q + 1) = 117 ∧ B (q + 2) = 108 ∧ B (q + 3) = 108

theorem byte_eq {x : Int} (h0 : 0 ≤ x) (h1 : x ≤ 255) (k : Nat) (hk : k ≤ 255) : (UInt8.ofNat x.toNat == UInt8.ofNat k) = decide (x = (k : Int)) := by
  rw [Bool.eq_iff_iff]
  simp only [beq_iff_eq, decide_eq_true_eq]
  constructor
  · intro h
    have := congrArg UInt8.toNat h
    simp only [UInt8.toNat_ofNat'] at this
    omega
  · intro h
    subst h
    simp

theorem word_eq {x0 x1 x2 x3 : Int} (h0 : 0 ≤ x0 ∧ x0 ≤ 255) (h1 : 0 ≤ x1 ∧ x1 ≤ 255) (h2 : 0 ≤ x2 ∧ x2 ≤ 255) (h3 : 0 ≤ x3 ∧ x3 ≤ 255) :
    ((strOfNums [x0, x1, x2, x3]).toList == [110, 117, 108, 108]) = decide (x0 = 110 ∧ x1 = 117 ∧ x2 = 108 ∧ x3 = 108) := by
  rw [ByteArray.toList_eq, strOfNums_data]
  have e0 := byte_eq h0.1 h0.2 110 (by omega)
  have e1 := byte_eq h1.1 h1.2 117 (by omega)
  have e2 := byte_eq h2.1 h2.2 108 (by omega)
  have e3 := byte_eq h3.1 h3.2 108 (by omega)
  show ([UInt8.ofNat x0.toNat, UInt8.ofNat x1.toNat, UInt8.ofNat x2.toNat, UInt8.ofNat x3.toNat] == [UInt8.ofNat 110, UInt8.ofNat 117, UInt8.ofNat 108, UInt8.ofNat 108]) = _
  simp only [List.cons_beq_cons, e0, e1, e2, e3]
  simp

def LitPost (w : World) (g : Nat) (B : Nat → Int) (n q : Nat) (e : Ending) (w' : World) : Prop :=
  (NullAt B n q ∧ e = .returned (.bool true) ∧ ∃ m, w' = (w.setCell ⟨g, 1, none⟩ (.int .i64 ((q : Int) + 4))).drewN m) ∨ (¬ NullAt B n q ∧ e = .returned (.bool false) ∧ ∃ m, w' = w.drewN m)

theorem literal_any (g : Nat) (a : Option Addr) (n c q : Nat) (B : Nat → Int) (w : World) (hn : n ≤ 1048576) (hnc : n ≤ c) (hcm : c ≤ maxLen) (hq : q ≤ n) (hd : Dec w g a n c q)
    (hc : CellsAt w a n (fun j => .int .u8 (B j))) (hB : ∀ j, j < n → 0 ≤ B j ∧ B j ≤ 255) :
    Calls Try.prog 36 #[.pointer (some ⟨g, 0, none⟩), .string ⟨#[110, 117, 108, 108]⟩] w fun e w' => LitPost w g B n q e w' := by
  by_cases h4 : q + 4 ≤ n
  · rcases hc with hc | ⟨b, off, rfl, hc⟩
    · omega
    have hcv : ∀ k, (convert 22 9 (.slice (some ⟨b, off + q, none⟩) 4 (c - q))).run Try.prog (w.drewN k) = .ok (.string (strOfNums [B q, B (q + 1), B (q + 2), B (q + 3)])) (w.drewN k) := by
      intro k
      refine run_convert_bytes_arg (P := Try.prog) (w.drewN k) 22 5 Try.underlying22 Try.underlying5 b (off + q) 4 (c - q) [B q, B (q + 1), B (q + 2), B (q + 3)] rfl ?_ 9 Try.underlying9
      intro i hi
      rw [World.cell?_drewN, Nat.add_assoc]
      match i, hi with
      | 0, _ => exact hc (q + 0) (by omega)
      | 1, _ => exact hc (q + 1) (by omega)
      | 2, _ => exact hc (q + 2) (by omega)
      | 3, _ => exact hc (q + 3) (by omega)
    have hw := word_eq (hB q (by omega)) (hB (q + 1) (by omega)) (hB (q + 2) (by omega)) (hB (q + 3) (by omega))
    by_cases hN : B q = 110 ∧ B (q + 1) = 117 ∧ B (q + 2) = 108 ∧ B (q + 3) = 108
    · rw [decide_eq_true hN] at hw
      exact (literal_yes g b off n c q _ w hn hnc hcm h4 hd hcv hw).mono fun e w' ⟨h1, h2⟩ => .inl ⟨⟨h4, hN⟩, h1, h2⟩
    · rw [decide_eq_false hN] at hw
      exact (literal_no g b off n c q _ w hn hnc hcm h4 hd hcv hw).mono fun e w' ⟨h1, h2⟩ => .inr ⟨fun h => hN h.2, h1, h2⟩
  · exact (literal_short g a n c q w hn hq hd (by omega)).mono fun e w' ⟨h1, h2⟩ => .inr ⟨fun h => h4 h.1, h1, h2⟩

/-- What reading null from i on comes to. -/
def Reads (B : Nat → Int) (n i : Nat) (ok : Bool) (x : Nat) : Prop :=
  ∃ q, Skips B n i q ∧ ((NullAt B n q ∧ ok = true ∧ x = q + 4) ∨ (¬ NullAt B n q ∧ ok = false ∧ x = q))

def NullPost (w : World) (g : Nat) (B : Nat → Int) (n i : Nat) (e : Ending) (w' : World) : Prop :=
  ∃ (ok : Bool) (x : Nat), e = .returned (.bool ok) ∧ Reads B n i ok x ∧ w'.cell? ⟨g, 1, none⟩ = some (.int .i64 (x : Nat)) ∧ Below g w w' ∧ g < w'.heap.size

theorem below_drewN' {B : Nat} {a w : World} {m : Nat} (h : Below B a w) : Below B a (w.drewN m) := ⟨h.os, h.tape, h.output, h.size, h.block⟩

theorem null_any (g : Nat) (a : Option Addr) (n c i : Nat) (B : Nat → Int) (w : World) (hn : n ≤ 1048576) (hnc : n ≤ c) (hcm : c ≤ maxLen) (hi : i ≤ n) (hd : Dec w g a n c i)
    (hc : CellsAt w a n (fun j => .int .u8 (B j))) (hg : 0 < n → ∀ b off, a = some ⟨b, off, none⟩ → b < g) (hB : ∀ j, j < n → 0 ≤ B j ∧ B j ≤ 255) :
    Calls Try.prog 31 #[.pointer (some ⟨g, 0, none⟩)] w fun e w' => NullPost w g B n i e w' := by
  have HS : Hid (Calls Try.prog 35 #[.pointer (some ⟨g, 0, none⟩)] w fun e w' => SpacePost w g B n i e w') := space_any g a n c i B w hn hi hd hc hB
  have hgl : g < w.heap.size := World.block_lt_of_cell? w _ hd.data
  have HD : Hid (Dec w g a n c i) := hd
  have HC : Hid (CellsAt w a n (fun j => .int .u8 (B j))) := hc
  have HG : Hid (0 < n → ∀ b off, a = some ⟨b, off, none⟩ → b < g) := hg
  have HB : Hid (∀ j, j < n → 0 ≤ B j ∧ B j ≤ 255) := hB
  clear hd hc hg hB
  go_enter Try.func31, Try.ntmps31
  go_wp2_with fail
  refine HS.out.mono ?_
  rintro e w1 ⟨rfl, q, m, hsk, rfl⟩
  have HK : Hid (Skips B n i q) := hsk
  have hqn : q ≤ n := hsk.2.1
  clear hsk
  have hd1 : Dec ((w.setCell ⟨g, 1, none⟩ (.int .i64 (q : Nat))).drewN m) g a n c q := by
    obtain ⟨d0, d1, d2⟩ := HD.out
    refine ⟨?_, ?_, ?_⟩
    · rw [World.cell?_drewN, World.cell?_setCell_other _ _ _ _ (by simp)]; exact d0
    · rw [World.cell?_drewN]; exact World.cell?_setCell_same _ _ _ d1
    · rw [World.frozen?_drewN, World.frozen?_setCell]; exact d2
  have hc1 : CellsAt ((w.setCell ⟨g, 1, none⟩ (.int .i64 (q : Nat))).drewN m) a n (fun j => .int .u8 (B j)) := by
    rcases HC.out with h | ⟨b, off, ha, hcc⟩
    · exact .inl h
    · refine .inr ⟨b, off, ha, fun j hj => ?_⟩
      have := HG.out (by omega) b off ha
      rw [World.cell?_drewN, World.cell?_setCell_other _ _ _ _ (by intro h; have := congrArg Addr.block h; simp at this; omega)]
      exact hcc j hj
  go_wp2_with fail
  refine (literal_any g a n c q B _ hn hnc hcm hqn hd1 hc1 HB.out).mono ?_
  have hb1 : Below g w ((w.setCell ⟨g, 1, none⟩ (.int .i64 (q : Nat))).drewN m) := below_drewN' ((Below.refl g w).setCell (p := ⟨g, 1, none⟩) (Nat.le_refl g) _)
  have hs1 : g < ((w.setCell ⟨g, 1, none⟩ (.int .i64 (q : Nat))).drewN m).heap.size := Nat.lt_of_lt_of_le hgl hb1.size
  generalize (w.setCell ⟨g, 1, none⟩ (.int .i64 (q : Nat))).drewN m = w1 at hd1 hc1 hb1 hs1 ⊢
  rintro e w2 (⟨hN, rfl, m2, rfl⟩ | ⟨hN, rfl, m2, rfl⟩)
  · have HN : Hid (NullAt B n q) := hN
    clear hN
    go_wp2_with fail
    go_ret
    refine ⟨true, q + 4, rfl, ⟨q, HK.out, .inl ⟨HN.out, rfl, rfl⟩⟩, ?_, below_drewN' (hb1.setCell (p := ⟨g, 1, none⟩) (Nat.le_refl g) _), ?_⟩
    · rw [World.cell?_drewN]
      exact World.cell?_setCell_same _ _ _ hd1.spot
    · show g < (w1.setCell _ _).heap.size
      simpa using hs1
  · have HN : Hid (¬ NullAt B n q) := hN
    clear hN
    go_wp2_with fail
    go_ret
    exact ⟨false, q, rfl, ⟨q, HK.out, .inr ⟨HN.out, rfl, rfl⟩⟩, hd1.spot, below_drewN' hb1, hs1⟩

def ZNullPost (w : World) (B : Nat → Int) (n i : Nat) (e : Ending) (w' : World) : Prop :=
  ∃ (ok : Bool) (x : Nat), e = .returned (.tuple #[.bool ok, .int .i64 (x : Nat)]) ∧ Reads B n i ok x ∧ Below w.heap.size w w'

theorem zzNull_any (a : Option Addr) (n c i : Nat) (B : Nat → Int) (w : World) (hn : n ≤ 1048576) (hnc : n ≤ c) (hcm : c ≤ maxLen) (hi : i ≤ n)
    (hc : CellsAt w a n (fun j => .int .u8 (B j))) (hB : ∀ j, j < n → 0 ≤ B j ∧ B j ≤ 255) :
    Calls Try.prog 15 #[.slice a n c, .int .i64 i] w fun e w' => ZNullPost w B n i e w' := by
  have HC : Hid (CellsAt w a n (fun j => .int .u8 (B j))) := hc
  have HB : Hid (∀ j, j < n → 0 ≤ B j ∧ B j ≤ 255) := hB
  clear hc hB
  go_enter Try.func15, Try.ntmps15
  go_wp2_with fail
  have hb0 : Below w.heap.size w (w.alloc (.cells #[.slice a n c, .int .i64 i, .int .i64 0, .slice none 0 0, .string ⟨#[]⟩, .pointer none] 53)) := (Below.refl _ _).alloc (Nat.le_refl _) _
  refine (null_any w.heap.size a n c i B _ hn hnc hcm hi ⟨by simp, by simp, by simp⟩ (HC.out.below hb0) ?_ HB.out).mono ?_
  · intro h0 b off ha
    rcases HC.out with h | ⟨b', off', ha', hcc⟩
    · omega
    · have hlt : b' < w.heap.size := World.block_lt_of_cell? w _ (hcc 0 h0)
      rw [ha'] at ha
      simp at ha
      omega
  · rintro e w1 ⟨ok, x, rfl, hread, hx, hb1, hs1⟩
    have HR : Hid (Reads B n i ok x) := hread
    have hb2 : Below w.heap.size w w1 := hb0.trans hb1
    clear hread hb1
    go_wp2_with fail
    go_quiet (fail)
    go_wp2_with fail
    go_ret2
    exact ⟨ok, x, rfl, HR.out, below_drewN' hb2⟩

end Go.Proofs.Qxb6616402a
