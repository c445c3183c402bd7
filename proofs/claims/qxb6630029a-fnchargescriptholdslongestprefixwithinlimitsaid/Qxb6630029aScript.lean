import Derived.Test.Qxb6630029aLeaf
namespace Go.Proofs.Qxb6630029a
open Go.ChangeShapes Go.WideShapes Go.ChangeAt Go.RowKit
set_option linter.unusedVariables false

/-! The plain part: running totals. -/
def sm (f : Nat → Int) : Nat → Int
  | 0 => 0
  | k + 1 => sm f k + f k
def Fit (p q : Nat → Int) (i : Nat) : Prop := (0 ≤ p i ∧ p i ≤ 1073741824) ∧ 0 ≤ q i ∧ q i ≤ 1073741824
theorem sm_bd (f : Nat → Int) : ∀ k : Nat, (∀ i, i < k → 0 ≤ f i ∧ f i ≤ 1073741824) → 0 ≤ sm f k ∧ sm f k ≤ (k : Int) * 1073741824
  | 0, _ => by simp [sm]
  | k + 1, h => by
    have ih := sm_bd f k (fun i hi => h i (by omega))
    have := h k (by omega)
    simp only [sm]
    omega
def Within (p q : Nat → Int) (k : Nat) : Prop := sm p k ≤ 20000000 ∧ sm q k ≤ 20000000
def wit (p q : Nat → Int) (k : Nat) : Bool := decide (sm p k ≤ 20000000) && decide (sm q k ≤ 20000000)
theorem wit_true {p q : Nat → Int} {k : Nat} (h1 : sm p k ≤ 20000000) (h2 : sm q k ≤ 20000000) : wit p q k = true := by simp [wit, h1, h2]
theorem wit_false {p q : Nat → Int} {k : Nat} (h : 20000000 < sm p k ∨ 20000000 < sm q k) : wit p q k = false := by
  unfold wit
  rw [Bool.and_eq_false_iff, decide_eq_false_iff_not, decide_eq_false_iff_not]; omega

/-- The budget behind k charges: within the limit it counted the totals; else it is over. -/
def Held (wr : World) (b : Nat) (p q : Nat → Int) (k : Nat) : Prop :=
  (Within p q k ∧ Bud wr b (sm p k) (sm q k) false) ∨ ((20000000 < sm p k ∨ 20000000 < sm q k) ∧ ∃ P S, Bud wr b P S true)

theorem Held.drew {wr : World} {b : Nat} {p q : Nat → Int} {k : Nat} (h : Held wr b p q k) : Held wr.drew b p q k := by
  rcases h with ⟨h1, h2⟩ | ⟨h1, P, S, h2⟩
  · exact .inl ⟨h1, h2.drew⟩
  · exact .inr ⟨h1, P, S, h2.drew⟩

theorem Held.blk {wr : World} {b : Nat} {p q : Nat → Int} {k : Nat} (h : Held wr b p q k) : b < wr.heap.size := by
  rcases h with ⟨h1, h2⟩ | ⟨h1, P, S, h2⟩
  · exact World.block_lt_of_cell? wr _ h2.c0
  · exact World.block_lt_of_cell? wr _ h2.c0

/-- One charge more. -/
theorem charge_next (b : Nat) (p q : Nat → Int) (k : Nat) (w : World) (hk : k ≤ 65536) (h : Held w b p q k) (hf : ∀ i, i < k + 1 → Fit p q i) :
    Calls Try.prog 6 #[.pointer (some ⟨b, 0, none⟩), .agg #[.int .i64 (p k), .int .i64 (q k)]] w fun e w' => e = .returned (.bool (wit p q (k + 1))) ∧ Held w' b p q (k + 1) ∧ w.grownBy w' (some b) := by
  have bp := sm_bd p k (fun i hi => (hf i (by omega)).1)
  have bq := sm_bd q k (fun i hi => (hf i (by omega)).2)
  obtain ⟨⟨f1, f2⟩, f3, f4⟩ := hf k (by omega)
  have ep : sm p (k + 1) = sm p k + p k := rfl
  have eq : sm q (k + 1) = sm q k + q k := rfl
  rcases h with ⟨⟨w1, w2⟩, h⟩ | ⟨h1, P, S, h⟩
  · by_cases x : sm p (k + 1) ≤ 20000000 ∧ sm q (k + 1) ≤ 20000000
    · rw [wit_true x.1 x.2]
      exact (charge_yes b _ _ (p k) (q k) w h bp.1 bq.1 f1 f3 (by rw [← ep]; exact x.1) (by rw [← eq]; exact x.2)).mono fun e w' ⟨he, hb, hg⟩ => ⟨he, .inl ⟨x, hb⟩, hg⟩
    · rw [wit_false (by omega)]
      exact (charge_no b _ _ (p k) (q k) w h bp.1 w1 bq.1 w2 f1 (by omega) f3 (by omega) (by omega)).mono fun e w' ⟨he, hb, hg⟩ => ⟨he, .inr ⟨by omega, _, _, hb⟩, hg⟩
  · rw [wit_false (by omega)]
    exact (charge_over b P S (p k) (q k) w h).mono fun e w' ⟨he, hb, hg⟩ => ⟨he, .inr ⟨by omega, _, _, hb⟩, hg⟩

/-- A charge of whatever work behind k charges. -/
theorem charge_probe (b : Nat) (p q : Nat → Int) (k : Nat) (x y : Int) (w : World) (hk : k ≤ 65536) (h : Held w b p q k) (hf : ∀ i, i < k → Fit p q i) (hx : 0 ≤ x ∧ x ≤ 1073741824) (hy : 0 ≤ y ∧ y ≤ 1073741824) :
    Calls Try.prog 6 #[.pointer (some ⟨b, 0, none⟩), .agg #[.int .i64 x, .int .i64 y]] w fun e w' => e = .returned (.bool (wit p q k && (decide (sm p k + x ≤ 20000000) && decide (sm q k + y ≤ 20000000)))) ∧ w.grownBy w' (some b) := by
  have bp := sm_bd p k (fun i hi => (hf i (by omega)).1)
  have bq := sm_bd q k (fun i hi => (hf i (by omega)).2)
  rcases h with ⟨⟨w1, w2⟩, h⟩ | ⟨h1, P, S, h⟩
  · rw [wit_true w1 w2, Bool.true_and]
    by_cases z : sm p k + x ≤ 20000000 ∧ sm q k + y ≤ 20000000
    · rw [decide_eq_true z.1, decide_eq_true z.2]
      exact (charge_yes b _ _ x y w h bp.1 bq.1 hx.1 hy.1 z.1 z.2).mono fun e w' ⟨he, hb, hg⟩ => ⟨he, hg⟩
    · have e0 : (decide (sm p k + x ≤ 20000000) && decide (sm q k + y ≤ 20000000)) = false := by
        rw [Bool.and_eq_false_iff, decide_eq_false_iff_not, decide_eq_false_iff_not]; omega
      rw [e0]
      exact (charge_no b _ _ x y w h bp.1 w1 bq.1 w2 hx.1 (by omega) hy.1 (by omega) (by omega)).mono fun e w' ⟨he, hb, hg⟩ => ⟨he, hg⟩
  · rw [wit_false h1, Bool.false_and]
    exact (charge_over b P S x y w h).mono fun e w' ⟨he, hb, hg⟩ => ⟨he, hg⟩

set_option maxHeartbeats 1000000 in
set_option maxRecDepth 100000 in
theorem script_small (a : Option Addr) (n c : Nat) (p q : Nat → Int) (w : World) (hn : n ≤ 65536) (hr : Rw w a n p q) :
    Calls Try.prog 3 #[.slice a n c] w fun e w' => e = .returned (.bool true) ∧ Below w.heap.size w w' := by
  have Hr : Hid (Rw w a n p q) := hr
  clear hr
  go_enter Try.func3, Try.ntmps3
  go_wp2_with fail
  refine (bytes5_any a n c _).mono ?_
  rintro e w' ⟨rfl, rfl⟩
  rw [decide_eq_true (show n ≤ 1048576 by omega)]
  go_wp2
  go_loop [3] (fun i => ∃ k : Nat, k ≤ n ∧ i = .int .i64 k ∧ ∀ j, j < k → Fit p q j) (fun i => n - (intOf i).toNat)
  case atStart => exact ⟨0, Nat.zero_le _, rfl, fun j hj => by omega⟩
  case round =>
    obtain ⟨k, hk, rfl, hfit⟩ := hrel
    have HFit : Hid (∀ j, j < k → Fit p q j) := hfit
    clear hfit
    by_cases hlt : k < n
    · rcases Hr.out with h0 | ⟨b, off, rfl, hc⟩
      · omega
      obtain ⟨c0, c1⟩ := hc k hlt
      have hlt' : (k : Int) < (n : Int) := by omega
      clear hc
      by_cases y1 : p k < 0
      · go_wp2
        go_ret
        exact ⟨rfl, Below.refl _ _⟩
      by_cases y2 : 1073741824 < p k
      · go_wp2
        go_ret
        exact ⟨rfl, Below.refl _ _⟩
      by_cases y3 : q k < 0
      · go_wp2
        go_ret
        exact ⟨rfl, Below.refl _ _⟩
      by_cases y4 : 1073741824 < q k
      · go_wp2
        go_ret
        exact ⟨rfl, Below.refl _ _⟩
      have HF2 : Hid (∀ j, j < k + 1 → Fit p q j) := fun j hj => by
        by_cases e : j = k
        · subst e; exact ⟨⟨by omega, by omega⟩, by omega, by omega⟩
        · exact HFit.out j (by omega)
      go_wp2
      go_round
      case rel => exact ⟨k + 1, by omega, by go_num, HF2.out⟩
      case measure => simp [intOf]; omega
    · obtain rfl : n = k := by omega
      go_wp2
      go_loopw [5, 6, 7, 8] (fun x y z i wr => ∃ j : Nat, j ≤ n ∧ i = .int .i64 j ∧ x = .int .i64 (sm p j) ∧ y = .int .i64 (sm q j) ∧ z = .bool (wit p q j) ∧ Held wr w'.heap.size p q j ∧ Below w'.heap.size w' wr) (fun _ _ _ i _ => n - (intOf i).toNat)
      case atStart => exact ⟨0, Nat.zero_le _, rfl, rfl, rfl, rfl, .inl ⟨⟨by simp [sm], by simp [sm]⟩, ⟨by simp [sm], by simp [sm], by simp, by simp, by simp, by simp⟩⟩, alloc_below _ _⟩
      case round =>
        obtain ⟨j, hj, rfl, rfl, rfl, rfl, hH0, hB0⟩ := hrel
        have HH : Hid (Held wr w'.heap.size p q j) := hH0
        have HB : Hid (Below w'.heap.size w' wr) := hB0
        have bp := sm_bd p j (fun i hi => (HFit.out i (by omega)).1)
        have bq := sm_bd q j (fun i hi => (HFit.out i (by omega)).2)
        clear hH0
        by_cases hjn : j < n
        · rcases Hr.out with h0 | ⟨b, off, rfl, hc⟩
          · omega
          have c0 := cell_later hB0 (hc j hjn).1
          have c1 := cell_later hB0 (hc j hjn).2
          obtain ⟨⟨f1, f2⟩, f3, f4⟩ := HFit.out j hjn
          have hj' : (j : Int) < (n : Int) := by omega
          clear hc hB0
          by_cases s1 : sm p j + p j ≤ 20000000
          · by_cases s2 : sm q j + q j ≤ 20000000
            · have HE : Hid (wit p q (j + 1) = true) := wit_true (by show sm p j + p j ≤ _; omega) (by show sm q j + q j ≤ _; omega)
              have HW : Hid (wit p q j = true) := wit_true (by omega) (by omega)
              have HC : Hid (Calls Try.prog 6 #[.pointer (some ⟨w'.heap.size, 0, none⟩), .agg #[.int .i64 (p j), .int .i64 (q j)]] wr.drew fun e w2 => e = .returned (.bool true) ∧ Held w2 w'.heap.size p q (j + 1) ∧ wr.drew.grownBy w2 (some w'.heap.size)) := by
                have := charge_next w'.heap.size p q j wr.drew (by omega) HH.out.drew (fun i hi => HFit.out i (by omega))
                rw [HE.out] at this; exact this
              go_wp2
              go_region_with (go_at_call 6; refine HC.out.mono ?_; rintro e w2 ⟨rfl, hH, hG⟩)
              all_goals
                have hB2 : Below w'.heap.size w' w2 := HB.out.drew.grown hG HB.out.size (fun k hk => by cases hk; exact Nat.le_refl _)
                go_wp2
                go_roundw
                case rel => exact ⟨j + 1, by omega, by go_num, rfl, rfl, by rw [HE.out, HW.out], hH, hB2⟩
                case measure => simp [intOf]; omega
            · have s3 : 20000000 < sm q j + q j := by omega
              have HE : Hid (wit p q (j + 1) = false) := wit_false (by show 20000000 < sm p j + p j ∨ 20000000 < sm q j + q j; omega)
              have HC : Hid (Calls Try.prog 6 #[.pointer (some ⟨w'.heap.size, 0, none⟩), .agg #[.int .i64 (p j), .int .i64 (q j)]] wr.drew fun e w2 => e = .returned (.bool false) ∧ Held w2 w'.heap.size p q (j + 1) ∧ wr.drew.grownBy w2 (some w'.heap.size)) := by
                have := charge_next w'.heap.size p q j wr.drew (by omega) HH.out.drew (fun i hi => HFit.out i (by omega))
                rw [HE.out] at this; exact this
              go_wp2
              go_region_with (go_at_call 6; refine HC.out.mono ?_; rintro e w2 ⟨rfl, hH, hG⟩)
              all_goals
                have hB2 : Below w'.heap.size w' w2 := HB.out.drew.grown hG HB.out.size (fun k hk => by cases hk; exact Nat.le_refl _)
                go_wp2
                go_roundw
                case rel => exact ⟨j + 1, by omega, by go_num, rfl, rfl, by rw [HE.out], hH, hB2⟩
                case measure => simp [intOf]; omega
          · have s3 : 20000000 < sm p j + p j := by omega
            have HE : Hid (wit p q (j + 1) = false) := wit_false (by show 20000000 < sm p j + p j ∨ 20000000 < sm q j + q j; omega)
            have HC : Hid (Calls Try.prog 6 #[.pointer (some ⟨w'.heap.size, 0, none⟩), .agg #[.int .i64 (p j), .int .i64 (q j)]] wr.drew fun e w2 => e = .returned (.bool false) ∧ Held w2 w'.heap.size p q (j + 1) ∧ wr.drew.grownBy w2 (some w'.heap.size)) := by
              have := charge_next w'.heap.size p q j wr.drew (by omega) HH.out.drew (fun i hi => HFit.out i (by omega))
              rw [HE.out] at this; exact this
            go_wp2
            go_region_with (go_at_call 6; refine HC.out.mono ?_; rintro e w2 ⟨rfl, hH, hG⟩)
            all_goals
              have hB2 : Below w'.heap.size w' w2 := HB.out.drew.grown hG HB.out.size (fun k hk => by cases hk; exact Nat.le_refl _)
              go_wp2
              go_roundw
              case rel => exact ⟨j + 1, by omega, by go_num, rfl, rfl, by rw [HE.out], hH, hB2⟩
              case measure => simp [intOf]; omega
        · obtain rfl : n = j := by omega
          have HC := charge_probe w'.heap.size p q n 0 0 wr (by omega) HH.out HFit.out (by omega) (by omega)
          have ew : (wit p q n && (decide (sm p n + 0 ≤ 20000000) && decide (sm q n + 0 ≤ 20000000))) = wit p q n := by
            unfold wit; rw [Int.add_zero, Int.add_zero, Bool.and_self]
          rw [ew] at HC
          have HC' : Hid (Calls Try.prog 6 #[.pointer (some ⟨w'.heap.size, 0, none⟩), .agg #[.int .i64 0, .int .i64 0]] wr fun e w2 => e = .returned (.bool (wit p q n)) ∧ wr.grownBy w2 (some w'.heap.size)) := HC
          clear HC ew hB0
          generalize wit p q n = v at *
          go_wp2_with fail
          refine HC'.out.mono ?_
          rintro e w2 ⟨rfl, hG⟩
          have hB2 : Below w'.heap.size w' w2 := HB.out.grown hG HB.out.size (fun k hk => by cases hk; exact Nat.le_refl _)
          go_wp2
          go_ret
          exact ⟨by simp, hB2⟩

theorem script_any (a : Option Addr) (n c : Nat) (p q : Nat → Int) (w : World) (hr : Rw w a n p q) :
    Calls Try.prog 3 #[.slice a n c] w fun e w' => e = .returned (.bool true) ∧ Below w.heap.size w w' := by
  by_cases hn : n ≤ 65536
  · exact script_small a n c p q w hn hr
  · go_enter Try.func3, Try.ntmps3
    go_wp2_with fail
    refine (bytes5_any a n c _).mono ?_
    rintro e w' ⟨rfl, rfl⟩
    cases hv : decide (n ≤ 1048576)
    · clear hv
      go_wp2
      go_ret
      exact ⟨rfl, Below.refl _ _⟩
    · clear hv
      go_wp2
      go_ret
      exact ⟨rfl, Below.refl _ _⟩
end Go.Proofs.Qxb6630029a
