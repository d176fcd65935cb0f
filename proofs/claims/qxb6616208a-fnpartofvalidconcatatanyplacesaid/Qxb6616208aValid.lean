import Derived.Test.Qxb6616208aFirst
namespace Go.Proofs.Qxb6616208a
open Go.RowKit
set_option linter.unusedVariables false
attribute [local go_sem ↓] Go.wp_at_zero Go.wp_at_succ

/-- Where the law looks no further: it returns true. -/
theorem valid_early (a : Option Addr) (n c : Nat) (E : Nat → El) (i : Int) (q : Bool) (hi lo t p : Int) (w : World) (hn : n ≤ maxLen) (hr : RowAt w a n E)
    (h : 4096 < n ∨ (decide (i < 0) = true) ∨ (decide (i < 0) = false ∧ decide ((n : Int) < i) = true) ∨ (decide (i < 0) = false ∧ decide ((n : Int) < i) = false ∧ (t == 0) = true) ∨
      (decide (i < 0) = false ∧ decide ((n : Int) < i) = false ∧ (t == 0) = false ∧ (p == 0) = true) ∨ (decide (i < 0) = false ∧ decide ((n : Int) < i) = false ∧ (t == 0) = false ∧ (p == 0) = false ∧ decide (t < p) = true)) :
    Calls Try.prog 3 #[.slice a n c, .int .i64 i, .bool q, .int .u8 hi, .int .u8 lo, .int .u8 t, .int .u8 p] w fun e w' => e = .returned (.bool true) ∧ Below w.heap.size w w' := by
  have hnn : n ≤ 9223372036854775807 := hn
  rcases h with h1 | h1 | ⟨h1, h2⟩ | ⟨h1, h2, h3⟩ | ⟨h1, h2, h3, h4⟩ | ⟨h1, h2, h3, h4, h5⟩
  all_goals
    go_enter Try.func3, Try.ntmps3
    go_wp2_with (first | (go_at_call 9; refine (bytes9_any _ _ _ _ _ _ _ _ _ E _ hn hr).mono ?_; rintro e w1 ⟨⟨b, rfl⟩, hw⟩; obtain rfl := hw.symm) | (go_at_call 10; refine (elemsBytes_any _ _ _ E _ _ hn hr).mono ?_; rintro e w' ⟨⟨s2, rfl⟩, hw⟩; obtain rfl := hw.symm))
    all_goals go_ret
    all_goals exact ⟨rfl, Below.refl _ _⟩

/-- The elements with one laid in at place i. -/
def insE (i : Nat) (e : El) (E : Nat → El) : Nat → El := fun k => if k < i then E k else if k = i then e else E (k - 1)

theorem insE_lt {i k : Nat} {e : El} {E : Nat → El} (h : k < i) : insE i e E k = E k := by simp [insE, h]
theorem insE_at (i : Nat) (e : El) (E : Nat → El) : insE i e E i = e := by simp [insE]
theorem insE_gt {i k : Nat} {e : El} {E : Nat → El} (h : i ≤ k) : insE i e E (k + 1) = E k := by
  simp only [insE]
  rw [if_neg (by omega), if_neg (by omega)]
  rfl

theorem insE_ok {w : World} {i n : Nat} {e : El} {E : Nat → El} (h : e.ok w) (hE : ∀ k, k < n → (E k).ok w) (hi : i ≤ n) : ∀ k, k < n + 1 → (insE i e E k).ok w := by
  intro k hk
  by_cases h1 : k < i
  · rw [insE_lt h1]; exact hE k (by omega)
  · by_cases h2 : k = i
    · rw [h2, insE_at]; exact h
    · obtain ⟨m, rfl⟩ : ∃ m, k = m + 1 := ⟨k - 1, by omega⟩
      rw [insE_gt (by omega)]; exact hE m (by omega)

theorem RowAt.take {w : World} {a : Option Addr} {n m : Nat} {E : Nat → El} (h : RowAt w a n E) (hm : m ≤ n) : RowAt w a m E := by
  obtain ⟨h1, h2⟩ := h
  refine ⟨?_, fun i hi => h2 i (by omega)⟩
  rcases h1 with h1 | ⟨b, off, ha, hc⟩
  · exact .inl (by omega)
  · exact .inr ⟨b, off, ha, fun i hi => hc i (by omega)⟩

theorem part_ne {e : El} {p : Int} (h : e.part = some p) : p ≠ 0 := by
  have hc : ∀ t q, chk t q = some p → p ≠ 0 := by
    intro t q hq
    unfold chk at hq
    by_cases c : t = 0 ∨ q = 0 ∨ t < q
    · rw [if_pos c] at hq; cases hq
    · rw [if_neg c] at hq; have := Option.some.inj hq; omega
  unfold El.part at h
  by_cases c : e.id = 0 ∧ e.l = 3
  · rw [if_pos c] at h; exact hc _ _ h
  · rw [if_neg c] at h
    by_cases d : e.id = 8 ∧ e.l = 4
    · rw [if_pos d] at h; exact hc _ _ h
    · rw [if_neg d] at h; cases h

/-- THE PLAIN LAW: with a valid element laid in at place i the first part number is the first of those ahead of it, or its own. -/
theorem ins_law {n i : Nat} {e : El} {E : Nat → El} {p before got : Int} (hi : i ≤ n) (he : e.part = some p) (hb : IsPart i E before) (hg : IsPart (n + 1) (insE i e E) got) :
    (before ≠ 0 → got = before) ∧ (before = 0 → got = p) := by
  rcases hb with ⟨j, hj, hp, hno⟩ | ⟨hno, hz⟩
  · refine ⟨fun _ => ?_, fun h => absurd h (part_ne hp)⟩
    refine isPart_one hg (.inl ⟨j, by omega, by rw [insE_lt hj]; exact hp, fun m hm => by rw [insE_lt (by omega)]; exact hno m hm⟩)
  · refine ⟨fun h => absurd hz h, fun _ => ?_⟩
    refine isPart_one hg (.inl ⟨i, by omega, by rw [insE_at]; exact he, fun m hm => by rw [insE_lt hm]; exact hno m hm⟩)

theorem el3 (w : World) (lo t p : Int) (rl : 0 ≤ lo ∧ lo ≤ 255) (rt : 0 ≤ t ∧ t ≤ 255) (rp : 0 ≤ p ∧ p ≤ 255) (t0 : (t == 0) = false) (p0 : (p == 0) = false) (pt : decide (t < p) = false) :
    let W := (w.alloc (.cells #[.int .u8 lo, .int .u8 t, .int .u8 p] 5)).alloc (.cells #[.int .u8 0, .slice (some ⟨w.heap.size, 0, none⟩) 3 3] 27)
    ∃ e : El, Below w.heap.size w W ∧ w.heap.size + 2 ≤ W.heap.size ∧ W.cell? ⟨w.heap.size + 1, 0, none⟩ = some (.int .u8 e.id) ∧ W.cell? ⟨w.heap.size + 1, 1, none⟩ = some (.slice e.a e.l e.c) ∧ e.ok W ∧ e.part = some p := by
  intro W
  have h1 : t ≠ 0 := by simpa using t0
  have h2 : p ≠ 0 := by simpa using p0
  have h3 : ¬ t < p := by simpa using pt
  refine ⟨⟨0, some ⟨w.heap.size, 0, none⟩, 3, 3, fun j => if j = 0 then lo else if j = 1 then t else p⟩, ?_, ?_, ?_, ?_, ?_, ?_⟩
  · exact ((Below.refl _ _).alloc (Nat.le_refl _) _).alloc (by simp) _
  · simp [W]
  · simp [W]
  · simp [W]
  · refine ⟨by simp, by simp, by simp [maxLen], .inr ⟨w.heap.size, 0, rfl, ?_⟩, ?_⟩
    · intro j hj
      match j, hj with
      | 0, _ => simp [W]
      | 1, _ => simp [W]
      | 2, _ => simp [W]
    · intro j hj
      match j, hj with
      | 0, _ => exact rl
      | 1, _ => exact rt
      | 2, _ => exact rp
  · simp [El.part, chk, h1, h2, h3]

theorem el4 (w : World) (hi lo t p : Int) (rh : 0 ≤ hi ∧ hi ≤ 255) (rl : 0 ≤ lo ∧ lo ≤ 255) (rt : 0 ≤ t ∧ t ≤ 255) (rp : 0 ≤ p ∧ p ≤ 255) (t0 : (t == 0) = false) (p0 : (p == 0) = false) (pt : decide (t < p) = false) :
    let W := ((w.alloc (.cells #[.int .u8 lo, .int .u8 t, .int .u8 p] 5)).alloc (.cells #[.int .u8 8, .slice (some ⟨w.heap.size + 1 + 1, 0, none⟩) 4 4] 27)).alloc (.cells #[.int .u8 hi, .int .u8 lo, .int .u8 t, .int .u8 p] 5)
    ∃ e : El, Below w.heap.size w W ∧ w.heap.size + 2 ≤ W.heap.size ∧ W.cell? ⟨w.heap.size + 1, 0, none⟩ = some (.int .u8 e.id) ∧ W.cell? ⟨w.heap.size + 1, 1, none⟩ = some (.slice e.a e.l e.c) ∧ e.ok W ∧ e.part = some p := by
  intro W
  have h1 : t ≠ 0 := by simpa using t0
  have h2 : p ≠ 0 := by simpa using p0
  have h3 : ¬ t < p := by simpa using pt
  have hc := World.cell?_alloc_at (w := ((w.alloc (.cells #[.int .u8 lo, .int .u8 t, .int .u8 p] 5)).alloc (.cells #[.int .u8 8, .slice (some ⟨w.heap.size + 1 + 1, 0, none⟩) 4 4] 27))) #[.int .u8 hi, .int .u8 lo, .int .u8 t, .int .u8 p] 5 (w.heap.size + 1 + 1)
  refine ⟨⟨8, some ⟨w.heap.size + 1 + 1, 0, none⟩, 4, 4, fun j => if j = 0 then hi else if j = 1 then lo else if j = 2 then t else p⟩, ?_, ?_, ?_, ?_, ?_, ?_⟩
  · exact (((Below.refl _ _).alloc (Nat.le_refl _) _).alloc (by simp) _).alloc (by simp; omega) _
  · simp [W]
  · exact (World.cell?_alloc_past _ _ _ (by simp)).trans (by simp)
  · exact (World.cell?_alloc_past _ _ _ (by simp)).trans (by simp)
  · refine ⟨by simp, by simp, by simp [maxLen], .inr ⟨w.heap.size + 1 + 1, 0, rfl, ?_⟩, ?_⟩
    · intro j hj
      match j, hj with
      | 0, _ => rw [hc _ (by simp)]; simp
      | 1, _ => rw [hc _ (by simp)]; simp
      | 2, _ => rw [hc _ (by simp)]; simp
      | 3, _ => rw [hc _ (by simp)]; simp
    · intro j hj
      match j, hj with
      | 0, _ => exact rh
      | 1, _ => exact rl
      | 2, _ => exact rt
      | 3, _ => exact rp
  · simp [El.part, chk, h1, h2, h3]

set_option maxRecDepth 100000 in
set_option maxHeartbeats 1600000 in
theorem valid_narrow (a : Option Addr) (n c : Nat) (E : Nat → El) (i : Nat) (hi lo t p : Int) (w : World) (hn : n ≤ 4096) (hr : RowAt w a n E) (ha : a = none → n = 0 ∧ c = 0) (hnc : n ≤ c)
    (hin : i ≤ n) (rh : 0 ≤ hi ∧ hi ≤ 255) (rl : 0 ≤ lo ∧ lo ≤ 255) (rt : 0 ≤ t ∧ t ≤ 255) (rp : 0 ≤ p ∧ p ≤ 255) (t0 : (t == 0) = false) (p0 : (p == 0) = false) (pt : decide (t < p) = false) :
    Calls Try.prog 3 #[.slice a n c, .int .i64 i, .bool false, .int .u8 hi, .int .u8 lo, .int .u8 t, .int .u8 p] w fun e w' => e = .returned (.bool true) ∧ Below w.heap.size w w' := by
  have HA : Hid (a = none → n = 0 ∧ c = 0) := ha
  clear ha
  have hn' : n ≤ maxLen := by unfold maxLen; omega
  have hmk := fun kl kc => run_make_room kl kc (n + 1) (by omega)
  have ecast : ((n + 1 : Nat) : Int) = (n : Int) + 1 := by omega
  rw [ecast] at hmk
  clear ecast
  have d1 : decide ((i : Int) < 0) = false := decide_eq_false (by omega)
  have d2 : decide ((n : Int) < (i : Int)) = false := decide_eq_false (by omega)
  · go_enter Try.func3, Try.ntmps3
    go_wp2_with fail
    refine (bytes9_any _ _ _ _ _ _ _ _ _ E _ hn' hr).mono ?_
    rintro e w1 ⟨⟨b, rfl⟩, hw⟩
    obtain rfl := hw.symm
    cases b
    · go_wp2_with fail
      go_ret
      exact ⟨rfl, Below.refl _ _⟩
    go_wp2_with (go_at_call 10; refine (elemsBytes_any _ _ _ E _ _ hn' hr).mono ?_; rintro e w' ⟨⟨s2, rfl⟩, hw⟩; obtain rfl := hw.symm)
    · go_ret
      exact ⟨rfl, Below.refl _ _⟩
    · obtain ⟨e, hb0, hsz, ce0, ce1, heok, hep⟩ := el3 w lo t p rl rt rp t0 p0 pt
      have HEP : Hid (e.part = some p) := hep
      clear hep
      generalize (w.alloc (.cells #[.int .u8 lo, .int .u8 t, .int .u8 p] 5)).alloc (.cells #[.int .u8 0, .slice (some ⟨w.heap.size, 0, none⟩) 3 3] 27) = w0 at hb0 hsz ce0 ce1 heok ⊢
      refine (elements_any a i c E w0 (by omega) ((hr.below hb0).take hin) (fun h => ⟨by have := HA.out h; omega, (HA.out h).2⟩)).mono ?_
      rintro e' w1 ⟨⟨ra, rc, rfl, hhead⟩, hb1⟩
      go_wp2_with fail
      clear hmk
      obtain ⟨i0, hi0, hz0, hz1, hz2⟩ := info_parts Try.info27
      have hs0 := hb0.size
      have hs1 := hb1.size
      have hbw1 : Below w.heap.size w w1 := hb0.trans (hb1.mono hs0)
      have HH0 := hr.below hbw1
      have ce0' : w1.cell? ⟨w.heap.size + 1, 0, none⟩ = some (.int .u8 e.id) := below_keeps hb1 ce0
      have ce1' : w1.cell? ⟨w.heap.size + 1, 1, none⟩ = some (.slice e.a e.l e.c) := below_keeps hb1 ce1
      have heok1 := heok.below hb1
      have hown0 : (w1.alloc (.cells (madeCells #[.int .u8 0, .slice none 0 0] ((n + 1) * 2)) 27)).ownsRow w1.heap.size 27 2 (.slice (some ⟨w1.heap.size, 0, none⟩) 0 (n + 1)) 0 (rowCells (insE i e E) 0) := World.ownsRow_made w1 _ (n + 1) (Nat.le_refl _) (by unfold maxLen; omega) (size_madeCells _ _)
      have hbm : Below w1.heap.size w1 (w1.alloc (.cells (madeCells #[.int .u8 0, .slice none 0 0] ((n + 1) * 2)) 27)) := (Below.refl _ _).alloc (Nat.le_refl _) _
      have hsw1 : w.heap.size + 2 ≤ w1.heap.size := by omega
      clear ce0 ce1 heok hb0 hb1 hs0 hs1 hsz hr
      go_loopw [17, 18] (fun v j wr => ∃ k g cap : Nat, k ≤ i ∧ j = .int .i64 k ∧ v = .slice (some ⟨g, 0, none⟩) k cap ∧ wr.ownsRow w1.heap.size 27 2 (.slice (some ⟨g, 0, none⟩) k cap) k (rowCells (insE i e E) k) ∧ Below w1.heap.size w1 wr) (fun _ j _ => i - (intOf j).toNat)
      case atStart => exact ⟨0, w1.heap.size, n + 1, Nat.zero_le _, rfl, rfl, hown0, hbm⟩
      case round =>
        clear hown0 hbm
        obtain ⟨k, g, cap, hk, rfl, rfl, hown, hbr⟩ := hrel
        have hg := own_ge hown
        have hsr := hbr.size
        by_cases hlt : k < i
        · obtain ⟨hr1, hok⟩ := HH0
          rcases hr1 with rfl | ⟨b, off, rfl, hc⟩
          · omega
          · have hlt0 : b < w1.heap.size := World.block_lt_of_cell? w1 _ (hc k (by omega)).1
            have hlt1 : b < wr.heap.size := by omega
            have hne : some b ≠ some g := by intro h; have := Option.some.inj h; omega
            have c0 : wr.cell? ⟨b, off + k * 2, none⟩ = some (.int .u8 (E k).id) := below_keeps hbr (hc k (by omega)).1
            have c1 : wr.cell? ⟨b, off + k * 2 + 1, none⟩ = some (.slice (E k).a (E k).l (E k).c) := below_keeps hbr (hc k (by omega)).2
            have hk0 : (0 : Int) ≤ (k : Int) := by omega
            have hk1 : (k : Int) < (n : Int) := by omega
            have hk2 : (k : Int) < (i : Int) := by omega
            clear hc ce0' ce1' heok1 hok hhead
            go_wp2_with fail
            go_region_held3 (fun w' => w'.cell? ⟨b, off + k * 2, none⟩ = some (.int .u8 (E k).id) ∧ w'.cell? ⟨b, off + k * 2 + 1, none⟩ = some (.slice (E k).a (E k).l (E k).c))
              (first
                | go_keep
                | (go_split_ands
                   refine ⟨?_, ?_⟩
                   · (rw [hgrow.cell_far _ (by simp; omega) hne]; assumption)
                   · (rw [hgrow.cell_far _ (by simp; omega) hne]; assumption)))
              ((refine step_append_lies _ (by rfl) _ _ _ (by rfl) w1.heap.size 27 i0 _ 2 32 Try.underlying28 hi0 hz0 hz1 hz2 rfl (by omega) (.slice (some ⟨g, 0, none⟩) k cap) k (rowCells (insE i e E) k) (by rfl) ((hown.alloc _).drew)
                  ⟨wr.heap.size, 0, none⟩ 1 1 [.int .u8 (E k).id, .slice (E k).a (E k).l (E k).c] (by rfl) (by rfl) (World.news_of_block (cs := #[.int .u8 (E k).id, .slice (E k).a (E k).l (E k).c]) (t := 27) (fr := (0, 0)) (heap_alloc_new wr _)) (by simp [Value.oneCell'])
                  (by omega) (by unfold maxLen; omega) (by omega) (by simp; omega) (wr.heap.size + 1) (by simp) ?_; intro gg cap2 w3 hown3 hgrow hat hlt3))
            go_wp2_with fail
            go_roundw
            case rel => exact ⟨k + 1, gg, cap2, by omega, by go_num, rfl, by rw [rowCells_succ (insE i e E) k, insE_lt hlt]; exact hown3, next_below hbr hsr hg.1 hgrow⟩
            case measure => simp [intOf]; omega
        · have hki : k = i := by omega
          subst hki
          have e0 : wr.cell? ⟨w.heap.size + 1, 0, none⟩ = some (.int .u8 e.id) := below_keeps hbr ce0'
          have e1 : wr.cell? ⟨w.heap.size + 1, 1, none⟩ = some (.slice e.a e.l e.c) := below_keeps hbr ce1'
          go_wp2_with (at_builtin; refine wpList_append_lies _ (by rfl) _ _ 28 (by rfl) w1.heap.size 27 i0 _ 2 32 Try.underlying28 hi0 hz0 hz1 hz2 rfl (by omega) (.slice (some ⟨g, 0, none⟩) k cap) k (rowCells (insE k e E) k) (by rfl) (hown.alloc _) ⟨wr.heap.size, 0, none⟩ 1 1 [.int .u8 e.id, .slice e.a e.l e.c] (by rfl) (by rfl) (World.news_of_block (cs := #[.int .u8 e.id, .slice e.a e.l e.c]) (t := 27) (fr := (0, 0)) (heap_alloc_new wr _)) (by simp [Value.oneCell']) (by omega) (by unfold maxLen; omega) (by omega) (by simp; omega) (wr.heap.size + 1) (by simp) ?_; intro gg cap2 w3 hown3 hgrow hat hlt3)
          have hb3 : Below w1.heap.size w1 w3 := by
            refine (hbr.alloc hsr _).grown hgrow (by simp; omega) ?_
            intro m hm
            simp [Value.ownBlock] at hm
            omega
          have hown4 : w3.ownsRow w1.heap.size 27 2 (.slice (some ⟨gg, 0, none⟩) (k + 1) cap2) (k + 1) (rowCells (insE k e E) (k + 1)) := by rw [rowCells_succ, insE_at]; exact hown3
          clear hown hown3 hgrow hat hlt3 e0 e1 hbr hsr hg ce0' ce1'
          go_loopw [17, 19] (fun v j wr => ∃ m g cap : Nat, k ≤ m ∧ m ≤ n ∧ j = .int .i64 m ∧ v = .slice (some ⟨g, 0, none⟩) (m + 1) cap ∧ wr.ownsRow w1.heap.size 27 2 (.slice (some ⟨g, 0, none⟩) (m + 1) cap) (m + 1) (rowCells (insE k e E) (m + 1)) ∧ Below w1.heap.size w1 wr) (fun _ j _ => n - (intOf j).toNat)
          case atStart => exact ⟨k, gg, cap2, Nat.le_refl _, hin, rfl, rfl, hown4, hb3⟩
          case round =>
            clear hown4 hb3
            obtain ⟨m, g, cap, hkm, hm, rfl, rfl, hown, hbr⟩ := hrel
            have hg := own_ge hown
            have hsr := hbr.size
            by_cases hlt2 : m < n
            · obtain ⟨hr1, hok⟩ := HH0
              rcases hr1 with rfl | ⟨b, off, rfl, hc⟩
              · omega
              · have hlt0 : b < w1.heap.size := World.block_lt_of_cell? w1 _ (hc m hlt2).1
                have hlt1 : b < wr.heap.size := by omega
                have hne : some b ≠ some g := by intro h; have := Option.some.inj h; omega
                have c0 : wr.cell? ⟨b, off + m * 2, none⟩ = some (.int .u8 (E m).id) := below_keeps hbr (hc m hlt2).1
                have c1 : wr.cell? ⟨b, off + m * 2 + 1, none⟩ = some (.slice (E m).a (E m).l (E m).c) := below_keeps hbr (hc m hlt2).2
                have hk0 : (0 : Int) ≤ (m : Int) := by omega
                have hk1 : (m : Int) < (n : Int) := by omega
                clear hc heok1 hok hhead
                go_wp2_with fail
                go_region_held3 (fun w' => w'.cell? ⟨b, off + m * 2, none⟩ = some (.int .u8 (E m).id) ∧ w'.cell? ⟨b, off + m * 2 + 1, none⟩ = some (.slice (E m).a (E m).l (E m).c))
                  (first
                    | go_keep
                    | (go_split_ands
                       refine ⟨?_, ?_⟩
                       · (rw [hgrow.cell_far _ (by simp; omega) hne]; assumption)
                       · (rw [hgrow.cell_far _ (by simp; omega) hne]; assumption)))
                  ((refine step_append_lies _ (by rfl) _ _ _ (by rfl) w1.heap.size 27 i0 _ 2 32 Try.underlying28 hi0 hz0 hz1 hz2 rfl (by omega) (.slice (some ⟨g, 0, none⟩) (m + 1) cap) (m + 1) (rowCells (insE k e E) (m + 1)) (by rfl) ((hown.alloc _).drew)
                      ⟨wr.heap.size, 0, none⟩ 1 1 [.int .u8 (E m).id, .slice (E m).a (E m).l (E m).c] (by rfl) (by rfl) (World.news_of_block (cs := #[.int .u8 (E m).id, .slice (E m).a (E m).l (E m).c]) (t := 27) (fr := (0, 0)) (heap_alloc_new wr _)) (by simp [Value.oneCell'])
                      (by omega) (by unfold maxLen; omega) (by omega) (by simp; omega) (wr.heap.size + 1) (by simp) ?_; intro gg cap2 w3 hown3 hgrow hat hlt3))
                go_wp2_with fail
                go_roundw
                case rel => exact ⟨m + 1, gg, cap2, by omega, by omega, by go_num, rfl, by rw [rowCells_succ (insE k e E) (m + 1), insE_gt hkm]; exact hown3, next_below hbr hsr hg.1 hgrow⟩
                case measure => simp [intOf]; omega
            · obtain rfl : m = n := by omega
              have hbw : Below w.heap.size w wr := hbw1.trans (hbr.mono hbw1.size)
              have hall : RowAt wr (some ⟨g, 0, none⟩) (m + 1) (insE k e E) := own_row hown (insE_ok (heok1.below hbr) (fun j hj => (HH0.2 j hj).below hbr) hin)
              have hhd : RowAt wr ra k E := hhead.below hbr
              clear hown
              go_wp2_with fail
              refine (zzPartOf_any wr.heap.size ra k rc E _ (by omega) (by exact hhd.below ((Below.refl _ _).alloc (Nat.le_refl _) _)) (by simp)).mono ?_
              rintro e' w4 ⟨⟨before, rfl, hbefore⟩, hb4⟩
              have HB : Hid (IsPart k E before) := hbefore
              clear hbefore
              have hbr4 : Below wr.heap.size wr w4 := ((Below.refl _ _).alloc (Nat.le_refl _) _).trans (hb4.mono (by simp))
              have hbw4 : Below w.heap.size w w4 := hbw.trans (hbr4.mono hbw.size)
              clear hb4
              go_wp2_with fail
              refine (zzPartOf_any w4.heap.size (some ⟨g, 0, none⟩) (m + 1) cap (insE k e E) _ (by omega) (by exact (hall.below hbr4).below ((Below.refl _ _).alloc (Nat.le_refl _) _)) (by simp)).mono ?_
              rintro e' w5 ⟨⟨got, rfl, hgot⟩, hb5⟩
              have law := ins_law hin HEP.out HB.out hgot
              clear hgot
              have hbw5 : Below w.heap.size w w5 := (hbw4.alloc hbw4.size _).trans (hb5.mono (by have := hbw4.size; simp; omega))
              clear hb5
              by_cases hz : before = 0
              · have hgp : got = p := law.2 hz
                have hz1 : (before != 0) = false := by simp [hz]
                have heq : (got == p) = true := by simp [hgp]
                clear law hz hgp
                go_wp2_with fail
                go_ret
                exact ⟨by simp, hbw5⟩
              · have hgp : got = before := law.1 hz
                have hz1 : (before != 0) = true := by simp [hz]
                have heq : (got == before) = true := by simp [hgp]
                clear law hz hgp
                go_wp2_with fail
                go_ret
                exact ⟨by simp, hbw5⟩

set_option maxRecDepth 100000 in
set_option maxHeartbeats 1600000 in
theorem valid_wide (a : Option Addr) (n c : Nat) (E : Nat → El) (i : Nat) (hi lo t p : Int) (w : World) (hn : n ≤ 4096) (hr : RowAt w a n E) (ha : a = none → n = 0 ∧ c = 0) (hnc : n ≤ c)
    (hin : i ≤ n) (rh : 0 ≤ hi ∧ hi ≤ 255) (rl : 0 ≤ lo ∧ lo ≤ 255) (rt : 0 ≤ t ∧ t ≤ 255) (rp : 0 ≤ p ∧ p ≤ 255) (t0 : (t == 0) = false) (p0 : (p == 0) = false) (pt : decide (t < p) = false) :
    Calls Try.prog 3 #[.slice a n c, .int .i64 i, .bool true, .int .u8 hi, .int .u8 lo, .int .u8 t, .int .u8 p] w fun e w' => e = .returned (.bool true) ∧ Below w.heap.size w w' := by
  have HA : Hid (a = none → n = 0 ∧ c = 0) := ha
  clear ha
  have hn' : n ≤ maxLen := by unfold maxLen; omega
  have hmk := fun kl kc => run_make_room kl kc (n + 1) (by omega)
  have ecast : ((n + 1 : Nat) : Int) = (n : Int) + 1 := by omega
  rw [ecast] at hmk
  clear ecast
  have d1 : decide ((i : Int) < 0) = false := decide_eq_false (by omega)
  have d2 : decide ((n : Int) < (i : Int)) = false := decide_eq_false (by omega)
  · go_enter Try.func3, Try.ntmps3
    go_wp2_with fail
    refine (bytes9_any _ _ _ _ _ _ _ _ _ E _ hn' hr).mono ?_
    rintro e w1 ⟨⟨b, rfl⟩, hw⟩
    obtain rfl := hw.symm
    cases b
    · go_wp2_with fail
      go_ret
      exact ⟨rfl, Below.refl _ _⟩
    go_wp2_with (go_at_call 10; refine (elemsBytes_any _ _ _ E _ _ hn' hr).mono ?_; rintro e w' ⟨⟨s2, rfl⟩, hw⟩; obtain rfl := hw.symm)
    · go_ret
      exact ⟨rfl, Below.refl _ _⟩
    · obtain ⟨e, hb0, hsz, ce0, ce1, heok, hep⟩ := el4 w hi lo t p rh rl rt rp t0 p0 pt
      have HEP : Hid (e.part = some p) := hep
      clear hep
      generalize ((w.alloc (.cells #[.int .u8 lo, .int .u8 t, .int .u8 p] 5)).alloc (.cells #[.int .u8 8, .slice (some ⟨w.heap.size + 1 + 1, 0, none⟩) 4 4] 27)).alloc (.cells #[.int .u8 hi, .int .u8 lo, .int .u8 t, .int .u8 p] 5) = w0 at hb0 hsz ce0 ce1 heok ⊢
      refine (elements_any a i c E w0 (by omega) ((hr.below hb0).take hin) (fun h => ⟨by have := HA.out h; omega, (HA.out h).2⟩)).mono ?_
      rintro e' w1 ⟨⟨ra, rc, rfl, hhead⟩, hb1⟩
      go_wp2_with fail
      clear hmk
      obtain ⟨i0, hi0, hz0, hz1, hz2⟩ := info_parts Try.info27
      have hs0 := hb0.size
      have hs1 := hb1.size
      have hbw1 : Below w.heap.size w w1 := hb0.trans (hb1.mono hs0)
      have HH0 := hr.below hbw1
      have ce0' : w1.cell? ⟨w.heap.size + 1, 0, none⟩ = some (.int .u8 e.id) := below_keeps hb1 ce0
      have ce1' : w1.cell? ⟨w.heap.size + 1, 1, none⟩ = some (.slice e.a e.l e.c) := below_keeps hb1 ce1
      have heok1 := heok.below hb1
      have hown0 : (w1.alloc (.cells (madeCells #[.int .u8 0, .slice none 0 0] ((n + 1) * 2)) 27)).ownsRow w1.heap.size 27 2 (.slice (some ⟨w1.heap.size, 0, none⟩) 0 (n + 1)) 0 (rowCells (insE i e E) 0) := World.ownsRow_made w1 _ (n + 1) (Nat.le_refl _) (by unfold maxLen; omega) (size_madeCells _ _)
      have hbm : Below w1.heap.size w1 (w1.alloc (.cells (madeCells #[.int .u8 0, .slice none 0 0] ((n + 1) * 2)) 27)) := (Below.refl _ _).alloc (Nat.le_refl _) _
      have hsw1 : w.heap.size + 2 ≤ w1.heap.size := by omega
      clear ce0 ce1 heok hb0 hb1 hs0 hs1 hsz hr
      go_loopw [17, 18] (fun v j wr => ∃ k g cap : Nat, k ≤ i ∧ j = .int .i64 k ∧ v = .slice (some ⟨g, 0, none⟩) k cap ∧ wr.ownsRow w1.heap.size 27 2 (.slice (some ⟨g, 0, none⟩) k cap) k (rowCells (insE i e E) k) ∧ Below w1.heap.size w1 wr) (fun _ j _ => i - (intOf j).toNat)
      case atStart => exact ⟨0, w1.heap.size, n + 1, Nat.zero_le _, rfl, rfl, hown0, hbm⟩
      case round =>
        clear hown0 hbm
        obtain ⟨k, g, cap, hk, rfl, rfl, hown, hbr⟩ := hrel
        have hg := own_ge hown
        have hsr := hbr.size
        by_cases hlt : k < i
        · obtain ⟨hr1, hok⟩ := HH0
          rcases hr1 with rfl | ⟨b, off, rfl, hc⟩
          · omega
          · have hlt0 : b < w1.heap.size := World.block_lt_of_cell? w1 _ (hc k (by omega)).1
            have hlt1 : b < wr.heap.size := by omega
            have hne : some b ≠ some g := by intro h; have := Option.some.inj h; omega
            have c0 : wr.cell? ⟨b, off + k * 2, none⟩ = some (.int .u8 (E k).id) := below_keeps hbr (hc k (by omega)).1
            have c1 : wr.cell? ⟨b, off + k * 2 + 1, none⟩ = some (.slice (E k).a (E k).l (E k).c) := below_keeps hbr (hc k (by omega)).2
            have hk0 : (0 : Int) ≤ (k : Int) := by omega
            have hk1 : (k : Int) < (n : Int) := by omega
            have hk2 : (k : Int) < (i : Int) := by omega
            clear hc ce0' ce1' heok1 hok hhead
            go_wp2_with fail
            go_region_held3 (fun w' => w'.cell? ⟨b, off + k * 2, none⟩ = some (.int .u8 (E k).id) ∧ w'.cell? ⟨b, off + k * 2 + 1, none⟩ = some (.slice (E k).a (E k).l (E k).c))
              (first
                | go_keep
                | (go_split_ands
                   refine ⟨?_, ?_⟩
                   · (rw [hgrow.cell_far _ (by simp; omega) hne]; assumption)
                   · (rw [hgrow.cell_far _ (by simp; omega) hne]; assumption)))
              ((refine step_append_lies _ (by rfl) _ _ _ (by rfl) w1.heap.size 27 i0 _ 2 32 Try.underlying28 hi0 hz0 hz1 hz2 rfl (by omega) (.slice (some ⟨g, 0, none⟩) k cap) k (rowCells (insE i e E) k) (by rfl) ((hown.alloc _).drew)
                  ⟨wr.heap.size, 0, none⟩ 1 1 [.int .u8 (E k).id, .slice (E k).a (E k).l (E k).c] (by rfl) (by rfl) (World.news_of_block (cs := #[.int .u8 (E k).id, .slice (E k).a (E k).l (E k).c]) (t := 27) (fr := (0, 0)) (heap_alloc_new wr _)) (by simp [Value.oneCell'])
                  (by omega) (by unfold maxLen; omega) (by omega) (by simp; omega) (wr.heap.size + 1) (by simp) ?_; intro gg cap2 w3 hown3 hgrow hat hlt3))
            go_wp2_with fail
            go_roundw
            case rel => exact ⟨k + 1, gg, cap2, by omega, by go_num, rfl, by rw [rowCells_succ (insE i e E) k, insE_lt hlt]; exact hown3, next_below hbr hsr hg.1 hgrow⟩
            case measure => simp [intOf]; omega
        · have hki : k = i := by omega
          subst hki
          have e0 : wr.cell? ⟨w.heap.size + 1, 0, none⟩ = some (.int .u8 e.id) := below_keeps hbr ce0'
          have e1 : wr.cell? ⟨w.heap.size + 1, 1, none⟩ = some (.slice e.a e.l e.c) := below_keeps hbr ce1'
          go_wp2_with (at_builtin; refine wpList_append_lies _ (by rfl) _ _ 28 (by rfl) w1.heap.size 27 i0 _ 2 32 Try.underlying28 hi0 hz0 hz1 hz2 rfl (by omega) (.slice (some ⟨g, 0, none⟩) k cap) k (rowCells (insE k e E) k) (by rfl) (hown.alloc _) ⟨wr.heap.size, 0, none⟩ 1 1 [.int .u8 e.id, .slice e.a e.l e.c] (by rfl) (by rfl) (World.news_of_block (cs := #[.int .u8 e.id, .slice e.a e.l e.c]) (t := 27) (fr := (0, 0)) (heap_alloc_new wr _)) (by simp [Value.oneCell']) (by omega) (by unfold maxLen; omega) (by omega) (by simp; omega) (wr.heap.size + 1) (by simp) ?_; intro gg cap2 w3 hown3 hgrow hat hlt3)
          have hb3 : Below w1.heap.size w1 w3 := by
            refine (hbr.alloc hsr _).grown hgrow (by simp; omega) ?_
            intro m hm
            simp [Value.ownBlock] at hm
            omega
          have hown4 : w3.ownsRow w1.heap.size 27 2 (.slice (some ⟨gg, 0, none⟩) (k + 1) cap2) (k + 1) (rowCells (insE k e E) (k + 1)) := by rw [rowCells_succ, insE_at]; exact hown3
          clear hown hown3 hgrow hat hlt3 e0 e1 hbr hsr hg ce0' ce1'
          go_loopw [17, 19] (fun v j wr => ∃ m g cap : Nat, k ≤ m ∧ m ≤ n ∧ j = .int .i64 m ∧ v = .slice (some ⟨g, 0, none⟩) (m + 1) cap ∧ wr.ownsRow w1.heap.size 27 2 (.slice (some ⟨g, 0, none⟩) (m + 1) cap) (m + 1) (rowCells (insE k e E) (m + 1)) ∧ Below w1.heap.size w1 wr) (fun _ j _ => n - (intOf j).toNat)
          case atStart => exact ⟨k, gg, cap2, Nat.le_refl _, hin, rfl, rfl, hown4, hb3⟩
          case round =>
            clear hown4 hb3
            obtain ⟨m, g, cap, hkm, hm, rfl, rfl, hown, hbr⟩ := hrel
            have hg := own_ge hown
            have hsr := hbr.size
            by_cases hlt2 : m < n
            · obtain ⟨hr1, hok⟩ := HH0
              rcases hr1 with rfl | ⟨b, off, rfl, hc⟩
              · omega
              · have hlt0 : b < w1.heap.size := World.block_lt_of_cell? w1 _ (hc m hlt2).1
                have hlt1 : b < wr.heap.size := by omega
                have hne : some b ≠ some g := by intro h; have := Option.some.inj h; omega
                have c0 : wr.cell? ⟨b, off + m * 2, none⟩ = some (.int .u8 (E m).id) := below_keeps hbr (hc m hlt2).1
                have c1 : wr.cell? ⟨b, off + m * 2 + 1, none⟩ = some (.slice (E m).a (E m).l (E m).c) := below_keeps hbr (hc m hlt2).2
                have hk0 : (0 : Int) ≤ (m : Int) := by omega
                have hk1 : (m : Int) < (n : Int) := by omega
                clear hc heok1 hok hhead
                go_wp2_with fail
                go_region_held3 (fun w' => w'.cell? ⟨b, off + m * 2, none⟩ = some (.int .u8 (E m).id) ∧ w'.cell? ⟨b, off + m * 2 + 1, none⟩ = some (.slice (E m).a (E m).l (E m).c))
                  (first
                    | go_keep
                    | (go_split_ands
                       refine ⟨?_, ?_⟩
                       · (rw [hgrow.cell_far _ (by simp; omega) hne]; assumption)
                       · (rw [hgrow.cell_far _ (by simp; omega) hne]; assumption)))
                  ((refine step_append_lies _ (by rfl) _ _ _ (by rfl) w1.heap.size 27 i0 _ 2 32 Try.underlying28 hi0 hz0 hz1 hz2 rfl (by omega) (.slice (some ⟨g, 0, none⟩) (m + 1) cap) (m + 1) (rowCells (insE k e E) (m + 1)) (by rfl) ((hown.alloc _).drew)
                      ⟨wr.heap.size, 0, none⟩ 1 1 [.int .u8 (E m).id, .slice (E m).a (E m).l (E m).c] (by rfl) (by rfl) (World.news_of_block (cs := #[.int .u8 (E m).id, .slice (E m).a (E m).l (E m).c]) (t := 27) (fr := (0, 0)) (heap_alloc_new wr _)) (by simp [Value.oneCell'])
                      (by omega) (by unfold maxLen; omega) (by omega) (by simp; omega) (wr.heap.size + 1) (by simp) ?_; intro gg cap2 w3 hown3 hgrow hat hlt3))
                go_wp2_with fail
                go_roundw
                case rel => exact ⟨m + 1, gg, cap2, by omega, by omega, by go_num, rfl, by rw [rowCells_succ (insE k e E) (m + 1), insE_gt hkm]; exact hown3, next_below hbr hsr hg.1 hgrow⟩
                case measure => simp [intOf]; omega
            · obtain rfl : m = n := by omega
              have hbw : Below w.heap.size w wr := hbw1.trans (hbr.mono hbw1.size)
              have hall : RowAt wr (some ⟨g, 0, none⟩) (m + 1) (insE k e E) := own_row hown (insE_ok (heok1.below hbr) (fun j hj => (HH0.2 j hj).below hbr) hin)
              have hhd : RowAt wr ra k E := hhead.below hbr
              clear hown
              go_wp2_with fail
              refine (zzPartOf_any wr.heap.size ra k rc E _ (by omega) (by exact hhd.below ((Below.refl _ _).alloc (Nat.le_refl _) _)) (by simp)).mono ?_
              rintro e' w4 ⟨⟨before, rfl, hbefore⟩, hb4⟩
              have HB : Hid (IsPart k E before) := hbefore
              clear hbefore
              have hbr4 : Below wr.heap.size wr w4 := ((Below.refl _ _).alloc (Nat.le_refl _) _).trans (hb4.mono (by simp))
              have hbw4 : Below w.heap.size w w4 := hbw.trans (hbr4.mono hbw.size)
              clear hb4
              go_wp2_with fail
              refine (zzPartOf_any w4.heap.size (some ⟨g, 0, none⟩) (m + 1) cap (insE k e E) _ (by omega) (by exact (hall.below hbr4).below ((Below.refl _ _).alloc (Nat.le_refl _) _)) (by simp)).mono ?_
              rintro e' w5 ⟨⟨got, rfl, hgot⟩, hb5⟩
              have law := ins_law hin HEP.out HB.out hgot
              clear hgot
              have hbw5 : Below w.heap.size w w5 := (hbw4.alloc hbw4.size _).trans (hb5.mono (by have := hbw4.size; simp; omega))
              clear hb5
              by_cases hz : before = 0
              · have hgp : got = p := law.2 hz
                have hz1 : (before != 0) = false := by simp [hz]
                have heq : (got == p) = true := by simp [hgp]
                clear law hz hgp
                go_wp2_with fail
                go_ret
                exact ⟨by simp, hbw5⟩
              · have hgp : got = before := law.1 hz
                have hz1 : (before != 0) = true := by simp [hz]
                have heq : (got == before) = true := by simp [hgp]
                clear law hz hgp
                go_wp2_with fail
                go_ret
                exact ⟨by simp, hbw5⟩

/-- The law, at every input. -/
theorem valid_any (q : Bool) (a : Option Addr) (n c : Nat) (E : Nat → El) (i hi lo t p : Int) (w : World) (hn : n ≤ maxLen) (hr : RowAt w a n E) (ha : a = none → n = 0 ∧ c = 0) (hnc : n ≤ c)
    (rh : 0 ≤ hi ∧ hi ≤ 255) (rl : 0 ≤ lo ∧ lo ≤ 255) (rt : 0 ≤ t ∧ t ≤ 255) (rp : 0 ≤ p ∧ p ≤ 255) :
    Calls Try.prog 3 #[.slice a n c, .int .i64 i, .bool q, .int .u8 hi, .int .u8 lo, .int .u8 t, .int .u8 p] w fun e w' => e = .returned (.bool true) ∧ Below w.heap.size w w' := by
  by_cases c1 : 4096 < n
  · exact valid_early a n c E i q hi lo t p w hn hr (.inl c1)
  by_cases c2 : i < 0
  · exact valid_early a n c E i q hi lo t p w hn hr (.inr (.inl (decide_eq_true c2)))
  have d2 := decide_eq_false c2
  by_cases c3 : (n : Int) < i
  · exact valid_early a n c E i q hi lo t p w hn hr (.inr (.inr (.inl ⟨d2, decide_eq_true c3⟩)))
  have d3 := decide_eq_false c3
  by_cases c4 : t = 0
  · exact valid_early a n c E i q hi lo t p w hn hr (.inr (.inr (.inr (.inl ⟨d2, d3, by simp [c4]⟩))))
  have d4 : (t == 0) = false := by simp [c4]
  by_cases c5 : p = 0
  · exact valid_early a n c E i q hi lo t p w hn hr (.inr (.inr (.inr (.inr (.inl ⟨d2, d3, d4, by simp [c5]⟩)))))
  have d5 : (p == 0) = false := by simp [c5]
  by_cases c6 : t < p
  · exact valid_early a n c E i q hi lo t p w hn hr (.inr (.inr (.inr (.inr (.inr ⟨d2, d3, d4, d5, decide_eq_true c6⟩)))))
  have d6 := decide_eq_false c6
  obtain ⟨m, rfl⟩ : ∃ m : Nat, i = (m : Int) := ⟨i.toNat, by omega⟩
  cases q
  · exact valid_narrow a n c E m hi lo t p w (by omega) hr ha hnc (by omega) rh rl rt rp d4 d5 d6
  · exact valid_wide a n c E m hi lo t p w (by omega) hr ha hnc (by omega) rh rl rt rp d4 d5 d6

end Go.Proofs.Qxb6616208a
