import Derived.Test.Qxb6616208aZconc
import Derived.Deep.AppendLies
import Derived.Deep.RegionHeld3
import Derived.Deep.DrawnRows
namespace Go.Proofs.Qxb6616208a
open Go.RowKit
set_option linter.unusedVariables false
attribute [local go_sem ↓] Go.wp_at_zero Go.wp_at_succ

/-- An element's two cells; those of J 0 .. J (m - 1). -/
def elCells (e : El) : List Value := [.int .u8 e.id, .slice e.a e.l e.c]
def rowCells (J : Nat → El) (m : Nat) : List Value := (List.range m).flatMap fun i => elCells (J i)

theorem rowCells_succ (J : Nat → El) (m : Nat) : rowCells J (m + 1) = rowCells J m ++ [.int .u8 (J m).id, .slice (J m).a (J m).l (J m).c] := by
  simp [rowCells, List.range_succ, List.flatMap_append, elCells]

theorem rowCells_len (J : Nat → El) (m : Nat) : (rowCells J m).length = m * 2 := by
  induction m with
  | zero => rfl
  | succ m ih => rw [rowCells_succ, List.length_append, ih]; simp; omega

theorem rowCells_at (J : Nat → El) (m i : Nat) (h : i < m) : (rowCells J m)[i * 2]? = some (.int .u8 (J i).id) ∧ (rowCells J m)[i * 2 + 1]? = some (.slice (J i).a (J i).l (J i).c) := by
  induction m with
  | zero => omega
  | succ m ih =>
    rw [rowCells_succ]
    have hl := rowCells_len J m
    by_cases e : i = m
    · subst e
      rw [List.getElem?_append_right (by omega), List.getElem?_append_right (by omega), hl]
      simp
    · have := ih (by omega)
      rw [List.getElem?_append_left (by omega), List.getElem?_append_left (by omega)]
      exact this

theorem own_row {w : World} {B g m cap : Nat} {J : Nat → El} (h : w.ownsRow B 27 2 (.slice (some ⟨g, 0, none⟩) m cap) m (rowCells J m)) (hok : ∀ i, i < m → (J i).ok w) : RowAt w (some ⟨g, 0, none⟩) m J := by
  refine ⟨.inr ⟨g, 0, rfl, fun i hi => ?_⟩, hok⟩
  have := rowCells_at J m i hi
  rw [Nat.zero_add, h.cellAt (i * 2) (by omega), h.cellAt (i * 2 + 1) (by omega)]
  exact this

/-- 'make([]Element, 0, n)' in whatever world. -/
theorem run_make_room (kl kc : IntKind) (n : Nat) (hn : n ≤ 1048576) (w : World) :
    (Instr.makeSlice 28 (.int kl 0) (.int kc (n : Int))).run Try.prog w = .ok (.slice (some ⟨w.heap.size, 0, none⟩) 0 n) (w.alloc (.cells (madeCells #[.int .u8 0, .slice none 0 0] (n * 2)) 27)) := by
  obtain ⟨i, hi, hz, hs, hb⟩ := info_parts Try.info27
  have hr := run_make (P := Try.prog) w 28 27 i _ Try.underlying28 hi hz kl kc 0 n (by omega) (by omega) (by rw [hb]; omega) (by omega)
  simpa [hs, Value.cells] using hr

/-- An element ahead of a row. -/
def consE (e : El) (E : Nat → El) : Nat → El
  | 0 => e
  | i + 1 => E i

theorem room_own (w : World) (n : Nat) (hn : n ≤ 1048576) (o : Obj) :
    ((w.alloc (.cells (madeCells #[.int .u8 0, .slice none 0 0] (n * 2)) 27)).alloc o).ownsRow w.heap.size 27 2 (.slice (some ⟨w.heap.size, 0, none⟩) 0 n) 0 [] :=
  (World.ownsRow_made w _ n (Nat.le_refl _) (by unfold maxLen; omega) (size_madeCells _ _)).alloc _

theorem room_news (w : World) (o : Obj) (x0 x1 : Value) : ∀ j u, [x0, x1][j]? = some u → ((w.alloc o).alloc (.cells #[x0, x1] 27)).cell? ((⟨w.heap.size + 1, 0, none⟩ : Addr).add j) = some u := by
  have h := heap_alloc_new (w.alloc o) (.cells #[x0, x1] 27)
  rw [World.size_alloc] at h
  exact World.news_of_block (cs := #[x0, x1]) (t := 27) (fr := (0, 0)) h

theorem start_below {w w2 : World} {o1 o2 : Obj} {n cap : Nat} (hg : ((w.alloc o1).alloc o2).grownBy w2 (Value.slice (some ⟨w.heap.size, 0, none⟩) n cap).ownBlock) : Below w.heap.size w w2 := by
  refine (((Below.refl _ _).alloc (Nat.le_refl _) o1).alloc (by simp) o2).grown hg (by simp; omega) ?_
  intro k hk
  simp [Value.ownBlock] at hk
  omega

theorem next_below {w wr w2 : World} {o : Obj} {B g n cap : Nat} (hb : Below B w wr) (hB : B ≤ wr.heap.size) (hgB : B ≤ g) (hg : (wr.alloc o).drew.grownBy w2 (Value.slice (some ⟨g, 0, none⟩) n cap).ownBlock) : Below B w w2 := by
  refine ((hb.alloc hB o).drew).grown hg (by show B ≤ (wr.alloc o).heap.size; simp; omega) ?_
  intro k hk
  simp [Value.ownBlock] at hk
  omega

theorem own_ge {w : World} {B g n cap m : Nat} {xs : List Value} (h : w.ownsRow B 27 2 (.slice (some ⟨g, 0, none⟩) n cap) m xs) : B ≤ g ∧ g < w.heap.size := h.lt g rfl

theorem consE_ok {w : World} {e : El} {E : Nat → El} {n : Nat} (h : e.ok w) (hE : ∀ i, i < n → (E i).ok w) : ∀ i, i < n + 1 → (consE e E i).ok w := by
  intro i hi
  match i with
  | 0 => exact h
  | i + 1 => exact hE i (by omega)

theorem isPart_cons_yes {n : Nat} {e : El} {E : Nat → El} {p q : Int} (h : IsPart (n + 1) (consE e E) q) (he : e.part = some p) : q = p := by
  rcases h with ⟨i, hi, hq, hno⟩ | ⟨hno, _⟩
  · match i with
    | 0 => exact Option.some.inj (hq.symm.trans he)
    | i + 1 => exact absurd ((hno 0 (by omega)).symm.trans he) (by simp)
  · exact absurd ((hno 0 (by omega)).symm.trans he) (by simp)

theorem isPart_cons_no {n : Nat} {e : El} {E : Nat → El} {q : Int} (h : IsPart (n + 1) (consE e E) q) (he : e.part = none) : IsPart n E q := by
  rcases h with ⟨i, hi, hq, hno⟩ | ⟨hno, h0⟩
  · match i with
    | 0 => exact absurd (he.symm.trans hq) (by simp)
    | i + 1 => exact .inl ⟨i, by omega, hq, fun j hj => hno (j + 1) (by omega)⟩
  · exact .inr ⟨fun j hj => hno (j + 1) (by omega), h0⟩

theorem isPart_one {n : Nat} {E : Nat → El} {p q : Int} (h : IsPart n E p) (k : IsPart n E q) : p = q := by
  rcases h with ⟨i, hi, hp, hno⟩ | ⟨hno, rfl⟩
  · rcases k with ⟨j, hj, hq, hno'⟩ | ⟨hno', _⟩
    · have e : i = j := by
        rcases Nat.lt_trichotomy i j with h | h | h
        · exact absurd ((hno' i h).symm.trans hp) (by simp)
        · exact h
        · exact absurd ((hno j h).symm.trans hq) (by simp)
      subst e
      exact Option.some.inj (hp.symm.trans hq)
    · exact absurd ((hno' i hi).symm.trans hp) (by simp)
  · rcases k with ⟨j, hj, hq, hno'⟩ | ⟨_, rfl⟩
    · exact absurd ((hno j hj).symm.trans hq) (by simp)
    · rfl

theorem first_walk (e0 : El) (a : Option Addr) (n c : Nat) (E : Nat → El) (w : World) (h0 : e0.ok w) (hn : n ≤ maxLen) (hr : RowAt w a n E) (ha : a = none → n = 0 ∧ c = 0) :
    Calls Try.prog 4 #[.int .u8 e0.id, .slice e0.a e0.l e0.c, .slice a n c] w fun e w' => e = .returned (.bool true) ∧ Below w.heap.size w w' := by
  have HA : Hid (a = none → n = 0 ∧ c = 0) := ha
  clear ha
  have hl0 := h0.2.2.1
  have hnn : n ≤ 9223372036854775807 := hn
  have hll : e0.l ≤ 9223372036854775807 := hl0
  by_cases hn4 : n ≤ 4096
  · have hmk := fun kl kc => run_make_room kl kc (n + 1) (by omega)
    have ecast : ((n + 1 : Nat) : Int) = (n : Int) + 1 := by omega
    rw [ecast] at hmk
    clear ecast
    go_enter Try.func4, Try.ntmps4
    go_wp2_with fail
    refine (bytes13_any _ _ _ _ _ _ _ E _ hl0 hn hr).mono ?_
    rintro e w1 ⟨⟨b, rfl⟩, hw⟩
    obtain rfl := hw.symm
    cases b
    · go_wp2_with fail
      go_ret
      exact ⟨rfl, Below.refl _ _⟩
    · go_wp2_with (first | (go_at_call 14; refine (add_any _ _ _).mono ?_; rintro e w' ⟨⟨s1, rfl⟩, hw⟩; obtain rfl := hw.symm) | (go_at_call 10; refine (elemsBytes_any _ _ _ E _ _ hn hr).mono ?_; rintro e w' ⟨⟨s2, rfl⟩, hw⟩; obtain rfl := hw.symm))
      · go_ret
        exact ⟨rfl, Below.refl _ _⟩
      · refine (elements_any a n c E w (by omega) hr HA.out).mono ?_
        rintro e w1 ⟨⟨ra, rc, rfl, hrest⟩, hb1⟩
        obtain ⟨i0, hi, hz0, hz1, hz2⟩ := info_parts Try.info27
        go_wp2_with (at_builtin; refine wpList_append_lies _ (by rfl) _ _ 28 (by rfl) w1.heap.size 27 i0 _ 2 32 Try.underlying28 hi hz0 hz1 hz2 rfl (by omega) (.slice (some ⟨w1.heap.size, 0, none⟩) 0 (n + 1)) 0 [] (by rfl) (room_own w1 (n + 1) (by omega) _) ⟨w1.heap.size + 1, 0, none⟩ 1 1 [.int .u8 e0.id, .slice e0.a e0.l e0.c] (by rfl) (by rfl) (room_news w1 _ _ _) (by simp [Value.oneCell']) (by omega) (by unfold maxLen; omega) (by omega) (by simp; omega) (w1.heap.size + 2) (by simp) ?_; intro g cap w2 hown hgrow hat hlt)
        have hb2 : Below w1.heap.size w1 w2 := start_below hgrow
        have hown1 : w2.ownsRow w1.heap.size 27 2 (.slice (some ⟨g, 0, none⟩) (0 + 1) cap) (0 + 1) (rowCells (consE e0 E) (0 + 1)) := by simpa [rowCells, consE, elCells] using hown
        clear hown hgrow hat hlt hmk
        go_loopw [8, 9] (fun v i wr => ∃ k g cap : Nat, k ≤ n ∧ i = .int .i64 k ∧ v = .slice (some ⟨g, 0, none⟩) (k + 1) cap ∧ wr.ownsRow w1.heap.size 27 2 (.slice (some ⟨g, 0, none⟩) (k + 1) cap) (k + 1) (rowCells (consE e0 E) (k + 1)) ∧ Below w1.heap.size w1 wr) (fun _ i _ => n - (intOf i).toNat)
        case atStart => exact ⟨0, g, cap, Nat.zero_le _, rfl, rfl, hown1, hb2⟩
        case round =>
          clear hown1 hb2
          obtain ⟨k, g, cap, hk, rfl, rfl, hown, hbr⟩ := hrel
          have hg := own_ge hown
          by_cases hlt : k < n
          · obtain ⟨hr1, hok⟩ := hr
            rcases hr1 with rfl | ⟨b, off, rfl, hc⟩
            · omega
            · have hlt0 : b < w.heap.size := World.block_lt_of_cell? w _ (hc k hlt).1
              have hs1 := hb1.size
              have hsr := hbr.size
              have hlt1 : b < wr.heap.size := by omega
              have hne : some b ≠ some g := by intro h; have := Option.some.inj h; omega
              have hbw : Below w.heap.size w wr := hb1.trans (hbr.mono hs1)
              have c0 : wr.cell? ⟨b, off + k * 2, none⟩ = some (.int .u8 (E k).id) := below_keeps hbw (hc k hlt).1
              have c1 : wr.cell? ⟨b, off + k * 2 + 1, none⟩ = some (.slice (E k).a (E k).l (E k).c) := below_keeps hbw (hc k hlt).2
              have hk0 : (0 : Int) ≤ (k : Int) := by omega
              have hk1 : (k : Int) < (n : Int) := by omega
              clear hc
              go_wp2_with fail
              go_region_held3 (fun w' => w'.cell? ⟨b, off + k * 2, none⟩ = some (.int .u8 (E k).id) ∧ w'.cell? ⟨b, off + k * 2 + 1, none⟩ = some (.slice (E k).a (E k).l (E k).c))
                (first
                  | go_keep
                  | (go_split_ands
                     refine ⟨?_, ?_⟩
                     · (rw [hgrow.cell_far _ (by simp; omega) hne]; assumption)
                     · (rw [hgrow.cell_far _ (by simp; omega) hne]; assumption)))
                ((refine step_append_lies _ (by rfl) _ _ _ (by rfl) w1.heap.size 27 i0 _ 2 32 Try.underlying28 hi hz0 hz1 hz2 rfl (by omega) (.slice (some ⟨g, 0, none⟩) (k + 1) cap) (k + 1) (rowCells (consE e0 E) (k + 1)) (by rfl) ((hown.alloc _).drew)
                    ⟨wr.heap.size, 0, none⟩ 1 1 [.int .u8 (E k).id, .slice (E k).a (E k).l (E k).c] (by rfl) (by rfl) (World.news_of_block (cs := #[.int .u8 (E k).id, .slice (E k).a (E k).l (E k).c]) (t := 27) (fr := (0, 0)) (heap_alloc_new wr _)) (by simp [Value.oneCell'])
                    (by omega) (by unfold maxLen; omega) (by omega) (by simp; omega) (wr.heap.size + 1) (by simp) ?_; intro gg cap2 w3 hown3 hgrow hat hlt3))
              go_wp2_with fail
              go_roundw
              case rel => exact ⟨k + 1, gg, cap2, by omega, by go_num, rfl, by rw [rowCells_succ (consE e0 E) (k + 1)]; exact hown3, next_below hbr hsr hg.1 hgrow⟩
              case measure => simp [intOf]; omega
          · obtain rfl : k = n := by omega
            have hbw : Below w.heap.size w wr := hb1.trans (hbr.mono hb1.size)
            have hall : RowAt wr (some ⟨g, 0, none⟩) (k + 1) (consE e0 E) := own_row hown (consE_ok (h0.below hbw) (fun i hi => (hr.2 i hi).below hbw))
            have hrest' : RowAt wr ra k E := hrest.below hbr
            clear hown
            go_wp2_with fail
            refine (zzPartOf_any wr.heap.size (some ⟨g, 0, none⟩) (k + 1) cap (consE e0 E) _ (by omega) (by exact hall.below ((Below.refl _ _).alloc (Nat.le_refl _) _)) (by simp)).mono ?_
            rintro e w4 ⟨⟨got, rfl, hgot⟩, hb4⟩
            have HG : Hid (IsPart (k + 1) (consE e0 E) got) := hgot
            clear hgot
            have hbr4 : Below wr.heap.size wr w4 := ((Below.refl _ _).alloc (Nat.le_refl _) _).trans (hb4.mono (by simp))
            have hbw4 : Below w.heap.size w w4 := hbw.trans (hbr4.mono hbw.size)
            clear hb4
            go_wp2_with fail
            refine (zconcat_any e0 w4 (h0.below hbw4)).mono ?_
            rintro e w5 ⟨⟨r, t, p, bb, rfl, hh⟩, hb5⟩
            have hbr5 : Below wr.heap.size wr w5 := hbr4.trans (hb5.mono hbr4.size)
            have hbw5 : Below w.heap.size w w5 := hbw.trans (hbr5.mono hbw.size)
            rcases hh with ⟨rfl, hpart⟩ | ⟨rfl, hpart⟩
            · have heq := isPart_cons_yes HG.out hpart
              clear hpart
              go_wp2_with fail
              go_ret
              exact ⟨by simp, hbw5⟩
            · have hgot2 : Hid (IsPart k E got) := isPart_cons_no HG.out hpart
              clear hpart
              go_wp2_with fail
              refine (zzPartOf_any w5.heap.size ra k rc E _ (by omega) (by exact (hrest'.below hbr5).below ((Below.refl _ _).alloc (Nat.le_refl _) _)) (by simp)).mono ?_
              rintro e w6 ⟨⟨got2, rfl, hg2⟩, hb6⟩
              have heq := isPart_one hgot2.out hg2
              clear hg2
              have hbw6 : Below w.heap.size w w6 := (hbw5.alloc hbw5.size _).trans (hb6.mono (by have := hbw5.size; simp; omega))
              clear hb6
              go_wp2_with fail
              go_ret
              exact ⟨by simp, hbw6⟩
  · go_enter Try.func4, Try.ntmps4
    go_wp2_with (go_at_call 13; refine (bytes13_any _ _ _ _ _ _ _ E _ hl0 hn hr).mono ?_; rintro e w1 ⟨⟨b, rfl⟩, hw⟩; obtain rfl := hw.symm)
    all_goals go_ret
    all_goals exact ⟨rfl, Below.refl _ _⟩

end Go.Proofs.Qxb6616208a
