import Derived.Test.Qxb6630029aScript
namespace Go.Proofs.Qxb6630029a
open Go.ChangeShapes Go.WideShapes Go.ChangeAt Go.RowKit
set_option linter.unusedVariables false

/-! What a budget holds stays while another block is written. -/
theorem Bud.frame {w w' : World} {b g : Nat} {P S : Int} {O : Bool} (h : Bud w b P S O) (hg : w.grownBy w' (some g)) (hne : b ≠ g) : Bud w' b P S O := by
  have hlt : b < w.heap.size := World.block_lt_of_cell? w _ h.c0
  have hblk := hg.block b hlt (by simp [hne])
  exact ⟨hg.cell h.c0 (by simp [hne]), hg.cell h.c1 (by simp [hne]), hg.cell h.c2 (by simp [hne]),
    (World.frozen?_of_block (a := ⟨b, 0, none⟩) hblk).trans h.f0, (World.frozen?_of_block (a := ⟨b, 1, none⟩) hblk).trans h.f1, (World.frozen?_of_block (a := ⟨b, 2, none⟩) hblk).trans h.f2⟩
theorem Held.frame {w w' : World} {b g : Nat} {p q : Nat → Int} {k : Nat} (h : Held w b p q k) (hg : w.grownBy w' (some g)) (hne : b ≠ g) : Held w' b p q k := by
  rcases h with ⟨h1, h2⟩ | ⟨h1, P, S, h2⟩
  · exact .inl ⟨h1, h2.frame hg hne⟩
  · exact .inr ⟨h1, P, S, h2.frame hg hne⟩
theorem Held.later {w w' : World} {b : Nat} {p q : Nat → Int} {k : Nat} (h : Held w b p q k) (hb : Below w.heap.size w w') : Held w' b p q k := by
  rcases h with ⟨h1, h2⟩ | ⟨h1, P, S, h2⟩
  · exact .inl ⟨h1, h2.later hb⟩
  · exact .inr ⟨h1, P, S, h2.later hb⟩

/-- A new budget, charged once with the totals. -/
theorem charge_lump (b : Nat) (p q : Nat → Int) (k : Nat) (w : World) (hk : k ≤ 65536) (h : Bud w b 0 0 false) (hf : ∀ i, i < k → Fit p q i) :
    Calls Try.prog 6 #[.pointer (some ⟨b, 0, none⟩), .agg #[.int .i64 (sm p k), .int .i64 (sm q k)]] w fun e w' => e = .returned (.bool (wit p q k)) ∧ Held w' b p q k ∧ w.grownBy w' (some b) := by
  have bp := sm_bd p k (fun i hi => (hf i hi).1)
  have bq := sm_bd q k (fun i hi => (hf i hi).2)
  by_cases x : sm p k ≤ 20000000 ∧ sm q k ≤ 20000000
  · rw [wit_true x.1 x.2]
    have := charge_yes b 0 0 (sm p k) (sm q k) w h (by omega) (by omega) bp.1 bq.1 (by omega) (by omega)
    rw [Int.zero_add, Int.zero_add] at this
    exact this.mono fun e w' ⟨he, hb, hg⟩ => ⟨he, .inl ⟨x, hb⟩, hg⟩
  · rw [wit_false (by omega)]
    exact (charge_no b 0 0 (sm p k) (sm q k) w h (by omega) (by omega) (by omega) (by omega) bp.1 (by omega) bq.1 (by omega) (by omega)).mono fun e w' ⟨he, hb, hg⟩ => ⟨he, .inr ⟨by omega, _, _, hb⟩, hg⟩

/-- Every call's answer as a bool that is known. -/
theorem lump_is (b : Nat) (p q : Nat → Int) (k : Nat) (v : Bool) (w : World) (hk : k ≤ 65536) (h : Bud w b 0 0 false) (hf : ∀ i, i < k → Fit p q i) (hv : wit p q k = v) :
    Calls Try.prog 6 #[.pointer (some ⟨b, 0, none⟩), .agg #[.int .i64 (sm p k), .int .i64 (sm q k)]] w fun e w' => e = .returned (.bool v) ∧ Held w' b p q k ∧ w.grownBy w' (some b) := by
  rw [← hv]; exact charge_lump b p q k w hk h hf
theorem probe_is (b : Nat) (p q : Nat → Int) (k : Nat) (x y : Int) (v : Bool) (w : World) (hk : k ≤ 65536) (h : Held w b p q k) (hf : ∀ i, i < k → Fit p q i) (hx : 0 ≤ x ∧ x ≤ 1073741824) (hy : 0 ≤ y ∧ y ≤ 1073741824)
    (hv : (wit p q k && (decide (sm p k + x ≤ 20000000) && decide (sm q k + y ≤ 20000000))) = v) :
    Calls Try.prog 6 #[.pointer (some ⟨b, 0, none⟩), .agg #[.int .i64 x, .int .i64 y]] w fun e w' => e = .returned (.bool v) ∧ w.grownBy w' (some b) := by
  rw [← hv]; exact charge_probe b p q k x y w hk h hf hx hy

set_option maxHeartbeats 2000000 in
set_option maxRecDepth 100000 in
theorem lumps_small (a : Option Addr) (n c : Nat) (p q : Nat → Int) (px py : Int) (w : World) (hn : n ≤ 65536) (hr : Rw w a n p q) :
    Calls Try.prog 4 #[.slice a n c, .agg #[.int .i64 px, .int .i64 py]] w fun e w' => e = .returned (.bool true) ∧ Below w.heap.size w w' := by
  have Hr : Hid (Rw w a n p q) := hr
  clear hr
  go_enter Try.func4, Try.ntmps4
  go_wp2_with fail
  refine (bytes7_any a n c px py _).mono ?_
  rintro e w1 ⟨rfl, hb1⟩
  rw [decide_eq_true (show n ≤ 1048576 by omega)]
  have B1 : Hid (Below w.heap.size w w1) := (alloc_below _ _).trans (hb1.mono (alloc_below _ _).size)
  have R1 : Hid (Rw w1 a n p q) := Hr.out.later B1.out
  have x0 : w1.cell? ⟨w.heap.size, 0, none⟩ = some (.int .i64 px) := by rw [hb1.cell (by simp)]; simp
  have x1 : w1.cell? ⟨w.heap.size, 1, none⟩ = some (.int .i64 py) := by rw [hb1.cell (by simp)]; simp
  clear hb1 Hr
  by_cases z1 : px < 0
  · go_wp2
    go_ret
    exact ⟨rfl, B1.out⟩
  by_cases z2 : 1073741824 < px
  · go_wp2
    go_ret
    exact ⟨rfl, B1.out⟩
  by_cases z3 : py < 0
  · go_wp2
    go_ret
    exact ⟨rfl, B1.out⟩
  by_cases z4 : 1073741824 < py
  · go_wp2
    go_ret
    exact ⟨rfl, B1.out⟩
  have zz1 : decide (px < 0) = false := decide_eq_false z1
  have zz2 : decide (1073741824 < px) = false := decide_eq_false z2
  have zz3 : decide (py < 0) = false := decide_eq_false z3
  have zz4 : decide (1073741824 < py) = false := decide_eq_false z4
  have X0' : Hid (w1.cell? ⟨w.heap.size, 0, none⟩ = some (.int .i64 px)) := x0
  have X1' : Hid (w1.cell? ⟨w.heap.size, 1, none⟩ = some (.int .i64 py)) := x1
  have s0 : w.heap.size < w1.heap.size := World.block_lt_of_cell? w1 _ x0
  go_wp2
  clear x0 x1 zz1 zz2 zz3 zz4
  go_loop [5] (fun i => ∃ k : Nat, k ≤ n ∧ i = .int .i64 k ∧ ∀ j, j < k → Fit p q j) (fun i => n - (intOf i).toNat)
  case atStart => exact ⟨0, Nat.zero_le _, rfl, fun j hj => by omega⟩
  case round =>
    obtain ⟨k, hk, rfl, hfit⟩ := hrel
    have HFit : Hid (∀ j, j < k → Fit p q j) := hfit
    clear hfit
    by_cases hlt : k < n
    · rcases R1.out with h0 | ⟨b, off, rfl, hc⟩
      · omega
      obtain ⟨c0, c1⟩ := hc k hlt
      have hlt' : (k : Int) < (n : Int) := by omega
      clear hc
      by_cases y1 : p k < 0
      · go_wp2
        go_ret
        exact ⟨rfl, B1.out⟩
      by_cases y2 : 1073741824 < p k
      · go_wp2
        go_ret
        exact ⟨rfl, B1.out⟩
      by_cases y3 : q k < 0
      · go_wp2
        go_ret
        exact ⟨rfl, B1.out⟩
      by_cases y4 : 1073741824 < q k
      · go_wp2
        go_ret
        exact ⟨rfl, B1.out⟩
      have HF2 : Hid (∀ j, j < k + 1 → Fit p q j) := fun j hj => by
        by_cases e : j = k
        · subst e; exact ⟨⟨by omega, by omega⟩, by omega, by omega⟩
        · exact HFit.out j (by omega)
      go_wp2
      go_round
      case rel => exact ⟨k + 1, by omega, by go_num, HF2.out⟩
      case measure => simp [intOf]; omega
    · obtain rfl : n = k := by omega
      go_wp2
      go_loopw [6, 7, 9, 10] (fun x y z i wr => ∃ j : Nat, j ≤ n ∧ i = .int .i64 j ∧ x = .int .i64 (sm p j) ∧ y = .int .i64 (sm q j) ∧ z = .bool (wit p q j) ∧ Held wr w1.heap.size p q j ∧ Below w1.heap.size w1 wr) (fun _ _ _ i _ => n - (intOf i).toNat)
      case atStart => exact ⟨0, Nat.zero_le _, rfl, rfl, rfl, rfl, .inl ⟨⟨by simp [sm], by simp [sm]⟩, ⟨by simp [sm], by simp [sm], by simp, by simp, by simp, by simp⟩⟩, alloc_below _ _⟩
      case round =>
        obtain ⟨j, hj, rfl, rfl, rfl, rfl, hH0, hB0⟩ := hrel
        have HH : Hid (Held wr w1.heap.size p q j) := hH0
        have HB : Hid (Below w1.heap.size w1 wr) := hB0
        have bp := sm_bd p j (fun i hi => (HFit.out i (by omega)).1)
        have bq := sm_bd q j (fun i hi => (HFit.out i (by omega)).2)
        clear hH0
        by_cases hjn : j < n
        · rcases R1.out with h0 | ⟨b, off, rfl, hc⟩
          · omega
          have c0 := cell_later hB0 (hc j hjn).1
          have c1 := cell_later hB0 (hc j hjn).2
          obtain ⟨⟨f1, f2⟩, f3, f4⟩ := HFit.out j hjn
          have hj' : (j : Int) < (n : Int) := by omega
          clear hc hB0
          by_cases s1 : sm p j + p j ≤ 20000000
          · by_cases s2 : sm q j + q j ≤ 20000000
            · have HE : Hid (wit p q (j + 1) = true) := wit_true (by show sm p j + p j ≤ _; omega) (by show sm q j + q j ≤ _; omega)
              have HW : Hid (wit p q j = true) := wit_true (by omega) (by omega)
              have HC : Hid (Calls Try.prog 6 #[.pointer (some ⟨w1.heap.size, 0, none⟩), .agg #[.int .i64 (p j), .int .i64 (q j)]] wr.drew fun e w2 => e = .returned (.bool true) ∧ Held w2 w1.heap.size p q (j + 1) ∧ wr.drew.grownBy w2 (some w1.heap.size)) := by
                have := charge_next w1.heap.size p q j wr.drew (by omega) HH.out.drew (fun i hi => HFit.out i (by omega))
                rw [HE.out] at this; exact this
              go_wp2
              go_region_with (go_at_call 6; refine HC.out.mono ?_; rintro e w2 ⟨rfl, hH, hG⟩)
              all_goals
                have hB2 : Below w1.heap.size w1 w2 := HB.out.drew.grown hG HB.out.size (fun k hk => by cases hk; exact Nat.le_refl _)
                go_wp2
                go_roundw
                case rel => exact ⟨j + 1, by omega, by go_num, rfl, rfl, by rw [HE.out, HW.out], hH, hB2⟩
                case measure => simp [intOf]; omega
            · have s3 : 20000000 < sm q j + q j := by omega
              have HE : Hid (wit p q (j + 1) = false) := wit_false (by show 20000000 < sm p j + p j ∨ 20000000 < sm q j + q j; omega)
              have HC : Hid (Calls Try.prog 6 #[.pointer (some ⟨w1.heap.size, 0, none⟩), .agg #[.int .i64 (p j), .int .i64 (q j)]] wr.drew fun e w2 => e = .returned (.bool false) ∧ Held w2 w1.heap.size p q (j + 1) ∧ wr.drew.grownBy w2 (some w1.heap.size)) := by
                have := charge_next w1.heap.size p q j wr.drew (by omega) HH.out.drew (fun i hi => HFit.out i (by omega))
                rw [HE.out] at this; exact this
              go_wp2
              go_region_with (go_at_call 6; refine HC.out.mono ?_; rintro e w2 ⟨rfl, hH, hG⟩)
              all_goals
                have hB2 : Below w1.heap.size w1 w2 := HB.out.drew.grown hG HB.out.size (fun k hk => by cases hk; exact Nat.le_refl _)
                go_wp2
                go_roundw
                case rel => exact ⟨j + 1, by omega, by go_num, rfl, rfl, by rw [HE.out], hH, hB2⟩
                case measure => simp [intOf]; omega
          · have s3 : 20000000 < sm p j + p j := by omega
            have HE : Hid (wit p q (j + 1) = false) := wit_false (by show 20000000 < sm p j + p j ∨ 20000000 < sm q j + q j; omega)
            have HC : Hid (Calls Try.prog 6 #[.pointer (some ⟨w1.heap.size, 0, none⟩), .agg #[.int .i64 (p j), .int .i64 (q j)]] wr.drew fun e w2 => e = .returned (.bool false) ∧ Held w2 w1.heap.size p q (j + 1) ∧ wr.drew.grownBy w2 (some w1.heap.size)) := by
              have := charge_next w1.heap.size p q j wr.drew (by omega) HH.out.drew (fun i hi => HFit.out i (by omega))
              rw [HE.out] at this; exact this
            go_wp2
            go_region_with (go_at_call 6; refine HC.out.mono ?_; rintro e w2 ⟨rfl, hH, hG⟩)
            all_goals
              have hB2 : Below w1.heap.size w1 w2 := HB.out.drew.grown hG HB.out.size (fun k hk => by cases hk; exact Nat.le_refl _)
              go_wp2
              go_roundw
              case rel => exact ⟨j + 1, by omega, by go_num, rfl, rfl, by rw [HE.out], hH, hB2⟩
              case measure => simp [intOf]; omega
        · obtain rfl : n = j := by omega
          have X0 : Hid (wr.cell? ⟨w.heap.size, 0, none⟩ = some (.int .i64 px)) := cell_later HB.out X0'.out
          have X1 : Hid (wr.cell? ⟨w.heap.size, 1, none⟩ = some (.int .i64 py)) := cell_later HB.out X1'.out
          have BW : Hid (Below w.heap.size w wr) := B1.out.trans (HB.out.mono B1.out.size)
          have sB : w1.heap.size < wr.heap.size := HH.out.blk
          have NB : Hid (Bud (wr.alloc (.cells #[.int .i64 0, .int .i64 0, .bool false] 28)) wr.heap.size 0 0 false) := ⟨by simp, by simp, by simp, by simp, by simp, by simp⟩
          clear hB0 X0' X1' HB R1
          by_cases l1 : sm p n ≤ 20000000
          · by_cases l2 : sm q n ≤ 20000000
            · by_cases l3 : sm p n + px ≤ 20000000
              · by_cases l4 : sm q n + py ≤ 20000000
                · have V1 : Hid (wit p q n = true) := wit_true l1 l2
                  have V2 : Hid ((wit p q n && (decide (sm p n + px ≤ 20000000) && decide (sm q n + py ≤ 20000000))) = true) := by rw [wit_true l1 l2, decide_eq_true l3, decide_eq_true l4]; rfl
                  rw [V1.out]
                  go_wp2_with fail
                  refine (lump_is wr.heap.size p q n true _ (by omega) NB.out HFit.out V1.out).mono ?_
                  rintro e w3 ⟨rfl, hH3, hG3⟩
                  have A3 : Hid (Held w3 w1.heap.size p q n) := (HH.out.later (alloc_below _ _)).frame hG3 (by omega)
                  have E3 : Hid (Held w3 wr.heap.size p q n) := hH3
                  have s3 : wr.heap.size < w3.heap.size := by have := hG3.size; simp at this; omega
                  have B3 : Hid (Below w.heap.size w w3) := BW.out.grown (World.grownBy_alloc _ _ none) BW.out.size (fun k hk => by cases hk) |>.grown hG3 (Nat.le_trans BW.out.size (by simp)) (fun k hk => by cases hk; exact BW.out.size)
                  have u0 : w3.cell? ⟨w.heap.size, 0, none⟩ = some (.int .i64 px) := hG3.cell (cell_later (alloc_below _ _) X0.out) (by simp; omega)
                  have u1 : w3.cell? ⟨w.heap.size, 1, none⟩ = some (.int .i64 py) := hG3.cell (cell_later (alloc_below _ _) X1.out) (by simp; omega)
                  have s4 : w.heap.size < w3.heap.size := by omega
                  have s5 : w.heap.size ≠ w3.heap.size := by omega
                  clear hH3 hG3
                  go_wp2_with fail
                  refine (probe_is w1.heap.size p q n px py true _ (by omega) (A3.out.later (alloc_below _ _)) HFit.out (by omega) (by omega) V2.out).mono ?_
                  rintro e w5 ⟨rfl, hG5⟩
                  have t0 : w5.cell? ⟨w3.heap.size, 0, none⟩ = some (.int .i64 px) := hG5.cell (a := ⟨w3.heap.size, 0, none⟩) (by simp) (by simp; omega)
                  have t1 : w5.cell? ⟨w3.heap.size, 1, none⟩ = some (.int .i64 py) := hG5.cell (a := ⟨w3.heap.size, 1, none⟩) (by simp) (by simp; omega)
                  have E5 : Hid (Held w5 wr.heap.size p q n) := (E3.out.later (alloc_below _ _)).frame hG5 (by omega)
                  have B5 : Hid (Below w.heap.size w w5) := (B3.out.grown (World.grownBy_alloc _ _ none) B3.out.size (fun k hk => by cases hk)).grown hG5 (Nat.le_trans B3.out.size (by simp)) (fun k hk => by cases hk; exact B1.out.size)
                  clear hG5
                  go_wp2_with fail
                  refine (probe_is wr.heap.size p q n px py true _ (by omega) E5.out HFit.out (by omega) (by omega) V2.out).mono ?_
                  rintro e w6 ⟨rfl, hG6⟩
                  have B6 : Hid (Below w.heap.size w w6) := B5.out.grown hG6 B5.out.size (fun k hk => by cases hk; exact BW.out.size)
                  clear hG6
                  go_wp2
                  go_ret
                  exact ⟨rfl, B6.out⟩
                · have l5 : 20000000 < sm q n + py := by omega
                  have l6 : decide (sm q n + py ≤ 20000000) = false := decide_eq_false l4
                  have V1 : Hid (wit p q n = true) := wit_true l1 l2
                  have V2 : Hid ((wit p q n && (decide (sm p n + px ≤ 20000000) && decide (sm q n + py ≤ 20000000))) = false) := by rw [wit_true l1 l2, decide_eq_true l3, decide_eq_false l4]; rfl
                  rw [V1.out]
                  go_wp2_with fail
                  refine (lump_is wr.heap.size p q n true _ (by omega) NB.out HFit.out V1.out).mono ?_
                  rintro e w3 ⟨rfl, hH3, hG3⟩
                  have A3 : Hid (Held w3 w1.heap.size p q n) := (HH.out.later (alloc_below _ _)).frame hG3 (by omega)
                  have E3 : Hid (Held w3 wr.heap.size p q n) := hH3
                  have s3 : wr.heap.size < w3.heap.size := by have := hG3.size; simp at this; omega
                  have B3 : Hid (Below w.heap.size w w3) := BW.out.grown (World.grownBy_alloc _ _ none) BW.out.size (fun k hk => by cases hk) |>.grown hG3 (Nat.le_trans BW.out.size (by simp)) (fun k hk => by cases hk; exact BW.out.size)
                  have u0 : w3.cell? ⟨w.heap.size, 0, none⟩ = some (.int .i64 px) := hG3.cell (cell_later (alloc_below _ _) X0.out) (by simp; omega)
                  have u1 : w3.cell? ⟨w.heap.size, 1, none⟩ = some (.int .i64 py) := hG3.cell (cell_later (alloc_below _ _) X1.out) (by simp; omega)
                  have s4 : w.heap.size < w3.heap.size := by omega
                  have s5 : w.heap.size ≠ w3.heap.size := by omega
                  clear hH3 hG3
                  go_wp2_with fail
                  refine (probe_is w1.heap.size p q n px py false _ (by omega) (A3.out.later (alloc_below _ _)) HFit.out (by omega) (by omega) V2.out).mono ?_
                  rintro e w5 ⟨rfl, hG5⟩
                  have t0 : w5.cell? ⟨w3.heap.size, 0, none⟩ = some (.int .i64 px) := hG5.cell (a := ⟨w3.heap.size, 0, none⟩) (by simp) (by simp; omega)
                  have t1 : w5.cell? ⟨w3.heap.size, 1, none⟩ = some (.int .i64 py) := hG5.cell (a := ⟨w3.heap.size, 1, none⟩) (by simp) (by simp; omega)
                  have E5 : Hid (Held w5 wr.heap.size p q n) := (E3.out.later (alloc_below _ _)).frame hG5 (by omega)
                  have B5 : Hid (Below w.heap.size w w5) := (B3.out.grown (World.grownBy_alloc _ _ none) B3.out.size (fun k hk => by cases hk)).grown hG5 (Nat.le_trans B3.out.size (by simp)) (fun k hk => by cases hk; exact B1.out.size)
                  clear hG5
                  go_wp2_with fail
                  refine (probe_is wr.heap.size p q n px py false _ (by omega) E5.out HFit.out (by omega) (by omega) V2.out).mono ?_
                  rintro e w6 ⟨rfl, hG6⟩
                  have B6 : Hid (Below w.heap.size w w6) := B5.out.grown hG6 B5.out.size (fun k hk => by cases hk; exact BW.out.size)
                  clear hG6
                  go_wp2
                  go_ret
                  exact ⟨rfl, B6.out⟩
              · have l5 : 20000000 < sm p n + px := by omega
                have l6 : decide (sm p n + px ≤ 20000000) = false := decide_eq_false l3
                have V1 : Hid (wit p q n = true) := wit_true l1 l2
                have V2 : Hid ((wit p q n && (decide (sm p n + px ≤ 20000000) && decide (sm q n + py ≤ 20000000))) = false) := by rw [wit_true l1 l2, decide_eq_false l3]; rfl
                rw [V1.out]
                go_wp2_with fail
                refine (lump_is wr.heap.size p q n true _ (by omega) NB.out HFit.out V1.out).mono ?_
                rintro e w3 ⟨rfl, hH3, hG3⟩
                have A3 : Hid (Held w3 w1.heap.size p q n) := (HH.out.later (alloc_below _ _)).frame hG3 (by omega)
                have E3 : Hid (Held w3 wr.heap.size p q n) := hH3
                have s3 : wr.heap.size < w3.heap.size := by have := hG3.size; simp at this; omega
                have B3 : Hid (Below w.heap.size w w3) := BW.out.grown (World.grownBy_alloc _ _ none) BW.out.size (fun k hk => by cases hk) |>.grown hG3 (Nat.le_trans BW.out.size (by simp)) (fun k hk => by cases hk; exact BW.out.size)
                have u0 : w3.cell? ⟨w.heap.size, 0, none⟩ = some (.int .i64 px) := hG3.cell (cell_later (alloc_below _ _) X0.out) (by simp; omega)
                have u1 : w3.cell? ⟨w.heap.size, 1, none⟩ = some (.int .i64 py) := hG3.cell (cell_later (alloc_below _ _) X1.out) (by simp; omega)
                have s4 : w.heap.size < w3.heap.size := by omega
                have s5 : w.heap.size ≠ w3.heap.size := by omega
                clear hH3 hG3
                go_wp2_with fail
                refine (probe_is w1.heap.size p q n px py false _ (by omega) (A3.out.later (alloc_below _ _)) HFit.out (by omega) (by omega) V2.out).mono ?_
                rintro e w5 ⟨rfl, hG5⟩
                have t0 : w5.cell? ⟨w3.heap.size, 0, none⟩ = some (.int .i64 px) := hG5.cell (a := ⟨w3.heap.size, 0, none⟩) (by simp) (by simp; omega)
                have t1 : w5.cell? ⟨w3.heap.size, 1, none⟩ = some (.int .i64 py) := hG5.cell (a := ⟨w3.heap.size, 1, none⟩) (by simp) (by simp; omega)
                have E5 : Hid (Held w5 wr.heap.size p q n) := (E3.out.later (alloc_below _ _)).frame hG5 (by omega)
                have B5 : Hid (Below w.heap.size w w5) := (B3.out.grown (World.grownBy_alloc _ _ none) B3.out.size (fun k hk => by cases hk)).grown hG5 (Nat.le_trans B3.out.size (by simp)) (fun k hk => by cases hk; exact B1.out.size)
                clear hG5
                go_wp2_with fail
                refine (probe_is wr.heap.size p q n px py false _ (by omega) E5.out HFit.out (by omega) (by omega) V2.out).mono ?_
                rintro e w6 ⟨rfl, hG6⟩
                have B6 : Hid (Below w.heap.size w w6) := B5.out.grown hG6 B5.out.size (fun k hk => by cases hk; exact BW.out.size)
                clear hG6
                go_wp2
                go_ret
                exact ⟨rfl, B6.out⟩
            · have l5 : 20000000 < sm q n := by omega
              have l6 : decide (sm q n ≤ 20000000) = false := decide_eq_false l2
              have V1 : Hid (wit p q n = false) := wit_false (.inr l5)
              have V2 : Hid ((wit p q n && (decide (sm p n + px ≤ 20000000) && decide (sm q n + py ≤ 20000000))) = false) := by rw [wit_false (.inr l5)]; rfl
              rw [V1.out]
              go_wp2_with fail
              refine (lump_is wr.heap.size p q n false _ (by omega) NB.out HFit.out V1.out).mono ?_
              rintro e w3 ⟨rfl, hH3, hG3⟩
              have A3 : Hid (Held w3 w1.heap.size p q n) := (HH.out.later (alloc_below _ _)).frame hG3 (by omega)
              have E3 : Hid (Held w3 wr.heap.size p q n) := hH3
              have s3 : wr.heap.size < w3.heap.size := by have := hG3.size; simp at this; omega
              have B3 : Hid (Below w.heap.size w w3) := BW.out.grown (World.grownBy_alloc _ _ none) BW.out.size (fun k hk => by cases hk) |>.grown hG3 (Nat.le_trans BW.out.size (by simp)) (fun k hk => by cases hk; exact BW.out.size)
              have u0 : w3.cell? ⟨w.heap.size, 0, none⟩ = some (.int .i64 px) := hG3.cell (cell_later (alloc_below _ _) X0.out) (by simp; omega)
              have u1 : w3.cell? ⟨w.heap.size, 1, none⟩ = some (.int .i64 py) := hG3.cell (cell_later (alloc_below _ _) X1.out) (by simp; omega)
              have s4 : w.heap.size < w3.heap.size := by omega
              have s5 : w.heap.size ≠ w3.heap.size := by omega
              clear hH3 hG3
              go_wp2_with fail
              refine (probe_is w1.heap.size p q n px py false _ (by omega) (A3.out.later (alloc_below _ _)) HFit.out (by omega) (by omega) V2.out).mono ?_
              rintro e w5 ⟨rfl, hG5⟩
              have t0 : w5.cell? ⟨w3.heap.size, 0, none⟩ = some (.int .i64 px) := hG5.cell (a := ⟨w3.heap.size, 0, none⟩) (by simp) (by simp; omega)
              have t1 : w5.cell? ⟨w3.heap.size, 1, none⟩ = some (.int .i64 py) := hG5.cell (a := ⟨w3.heap.size, 1, none⟩) (by simp) (by simp; omega)
              have E5 : Hid (Held w5 wr.heap.size p q n) := (E3.out.later (alloc_below _ _)).frame hG5 (by omega)
              have B5 : Hid (Below w.heap.size w w5) := (B3.out.grown (World.grownBy_alloc _ _ none) B3.out.size (fun k hk => by cases hk)).grown hG5 (Nat.le_trans B3.out.size (by simp)) (fun k hk => by cases hk; exact B1.out.size)
              clear hG5
              go_wp2_with fail
              refine (probe_is wr.heap.size p q n px py false _ (by omega) E5.out HFit.out (by omega) (by omega) V2.out).mono ?_
              rintro e w6 ⟨rfl, hG6⟩
              have B6 : Hid (Below w.heap.size w w6) := B5.out.grown hG6 B5.out.size (fun k hk => by cases hk; exact BW.out.size)
              clear hG6
              go_wp2
              go_ret
              exact ⟨rfl, B6.out⟩
          · have l5 : 20000000 < sm p n := by omega
            have l6 : decide (sm p n ≤ 20000000) = false := decide_eq_false l1
            have V1 : Hid (wit p q n = false) := wit_false (.inl l5)
            have V2 : Hid ((wit p q n && (decide (sm p n + px ≤ 20000000) && decide (sm q n + py ≤ 20000000))) = false) := by rw [wit_false (.inl l5)]; rfl
            rw [V1.out]
            go_wp2_with fail
            refine (lump_is wr.heap.size p q n false _ (by omega) NB.out HFit.out V1.out).mono ?_
            rintro e w3 ⟨rfl, hH3, hG3⟩
            have A3 : Hid (Held w3 w1.heap.size p q n) := (HH.out.later (alloc_below _ _)).frame hG3 (by omega)
            have E3 : Hid (Held w3 wr.heap.size p q n) := hH3
            have s3 : wr.heap.size < w3.heap.size := by have := hG3.size; simp at this; omega
            have B3 : Hid (Below w.heap.size w w3) := BW.out.grown (World.grownBy_alloc _ _ none) BW.out.size (fun k hk => by cases hk) |>.grown hG3 (Nat.le_trans BW.out.size (by simp)) (fun k hk => by cases hk; exact BW.out.size)
            have u0 : w3.cell? ⟨w.heap.size, 0, none⟩ = some (.int .i64 px) := hG3.cell (cell_later (alloc_below _ _) X0.out) (by simp; omega)
            have u1 : w3.cell? ⟨w.heap.size, 1, none⟩ = some (.int .i64 py) := hG3.cell (cell_later (alloc_below _ _) X1.out) (by simp; omega)
            have s4 : w.heap.size < w3.heap.size := by omega
            have s5 : w.heap.size ≠ w3.heap.size := by omega
            clear hH3 hG3
            go_wp2_with fail
            refine (probe_is w1.heap.size p q n px py false _ (by omega) (A3.out.later (alloc_below _ _)) HFit.out (by omega) (by omega) V2.out).mono ?_
            rintro e w5 ⟨rfl, hG5⟩
            have t0 : w5.cell? ⟨w3.heap.size, 0, none⟩ = some (.int .i64 px) := hG5.cell (a := ⟨w3.heap.size, 0, none⟩) (by simp) (by simp; omega)
            have t1 : w5.cell? ⟨w3.heap.size, 1, none⟩ = some (.int .i64 py) := hG5.cell (a := ⟨w3.heap.size, 1, none⟩) (by simp) (by simp; omega)
            have E5 : Hid (Held w5 wr.heap.size p q n) := (E3.out.later (alloc_below _ _)).frame hG5 (by omega)
            have B5 : Hid (Below w.heap.size w w5) := (B3.out.grown (World.grownBy_alloc _ _ none) B3.out.size (fun k hk => by cases hk)).grown hG5 (Nat.le_trans B3.out.size (by simp)) (fun k hk => by cases hk; exact B1.out.size)
            clear hG5
            go_wp2_with fail
            refine (probe_is wr.heap.size p q n px py false _ (by omega) E5.out HFit.out (by omega) (by omega) V2.out).mono ?_
            rintro e w6 ⟨rfl, hG6⟩
            have B6 : Hid (Below w.heap.size w w6) := B5.out.grown hG6 B5.out.size (fun k hk => by cases hk; exact BW.out.size)
            clear hG6
            go_wp2
            go_ret
            exact ⟨rfl, B6.out⟩

set_option maxRecDepth 100000 in
theorem lumps_any (a : Option Addr) (n c : Nat) (p q : Nat → Int) (px py : Int) (w : World) (hr : Rw w a n p q) :
    Calls Try.prog 4 #[.slice a n c, .agg #[.int .i64 px, .int .i64 py]] w fun e w' => e = .returned (.bool true) ∧ Below w.heap.size w w' := by
  by_cases hn : n ≤ 65536
  · exact lumps_small a n c p q px py w hn hr
  · go_enter Try.func4, Try.ntmps4
    go_wp2_with fail
    refine (bytes7_any a n c px py _).mono ?_
    rintro e w1 ⟨rfl, hb1⟩
    have B1 : Hid (Below w.heap.size w w1) := (alloc_below _ _).trans (hb1.mono (alloc_below _ _).size)
    clear hb1
    cases hv : decide (n ≤ 1048576)
    · clear hv
      go_wp2
      go_ret
      exact ⟨rfl, B1.out⟩
    · clear hv
      go_wp2
      go_ret
      exact ⟨rfl, B1.out⟩
end Go.Proofs.Qxb6630029a
