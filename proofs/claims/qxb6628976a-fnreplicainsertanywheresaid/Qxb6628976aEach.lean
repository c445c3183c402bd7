import Derived.Test.Qxb6628976aList
namespace Go.Proofs.Qxb6628976a
open Go.ChangeShapes Go.WideShapes Go.ChangeAt Go.RowKit
set_option linter.unusedVariables false

/-! The plain law: rows in the order of their names bear no name twice. -/
theorem less_irrefl : ∀ x : List UInt8, Op.bytesLess x x = false
  | [] => rfl
  | a :: x => by simp [Op.bytesLess, less_irrefl x]

theorem less_trans : ∀ x y z : List UInt8, Op.bytesLess x y = true → Op.bytesLess y z = true → Op.bytesLess x z = true
  | _, [], _, h, _ => by simp [Op.bytesLess] at h
  | _, _ :: _, [], _, h => by simp [Op.bytesLess] at h
  | [], _ :: _, _ :: _, _, _ => rfl
  | a :: x, b :: y, c :: z, h, k => by
    simp only [Op.bytesLess, Bool.or_eq_true, Bool.and_eq_true, decide_eq_true_eq, beq_iff_eq] at h k ⊢
    rcases h with h | ⟨rfl, h⟩ <;> rcases k with k | ⟨rfl, k⟩
    · exact .inl (UInt8.lt_trans h k)
    · exact .inl h
    · exact .inl k
    · exact .inr ⟨rfl, less_trans x y z h k⟩

theorem less_far (s : Nat → ByteArray) (n : Nat) (h : ∀ i, 1 ≤ i → i < n → Op.bytesLess (s (i - 1)).toList (s i).toList = true) (i : Nat) :
    ∀ d, i + d + 1 < n → Op.bytesLess (s i).toList (s (i + d + 1)).toList = true
  | 0, hd => h (i + 1) (by omega) hd
  | d + 1, hd => less_trans _ _ _ (less_far s n h i d (by omega)) (h (i + (d + 1) + 1) (by omega) hd)

theorem same_iff {p q : ByteArray} : same p q = true ↔ p.toList = q.toList := by simp [same]

theorem apart (s : Nat → ByteArray) (n : Nat) (h : ∀ i, 1 ≤ i → i < n → Op.bytesLess (s (i - 1)).toList (s i).toList = true) {i j : Nat} (hij : i < j) (hj : j < n) : (s i).toList ≠ (s j).toList := by
  intro e
  obtain ⟨d, rfl⟩ : ∃ d, j = i + d + 1 := ⟨j - i - 1, by omega⟩
  have := less_far s n h i d hj
  rw [e, less_irrefl] at this
  cases this

/-- The storage 's k' is found first at k. -/
theorem first_own (s : Nat → ByteArray) (n : Nat) (h : ∀ i, 1 ≤ i → i < n → Op.bytesLess (s (i - 1)).toList (s i).toList = true) {k : Nat} (hk : k < n) {st : ByteArray} (hs : same (s k) st = true) :
    ∀ j, j < k → same (s j) st = false := by
  intro j hj
  have hne := apart s n h hj hk
  rw [same_iff] at hs
  cases e : same (s j) st
  · rfl
  · rw [same_iff] at e; exact absurd (e.trans hs.symm) hne

theorem later_not (s : Nat → ByteArray) (n : Nat) (h : ∀ i, 1 ≤ i → i < n → Op.bytesLess (s (i - 1)).toList (s i).toList = true) {k : Nat} {st : ByteArray} (hs : same (s k) st = true) :
    ∀ j, k < j → j < n → same (s j) st = false := by
  intro j hj hjn
  have hne := apart s n h hj hjn
  rw [same_iff] at hs
  cases e : same (s j) st
  · rfl
  · rw [same_iff] at e; exact absurd (hs.trans e.symm) hne

theorem list_any (a : Option Addr) (n c : Nat) (s : Nat → ByteArray) (f : Nat → Int) (w : World) (hn : n ≤ 1000000) (hr : Rw w a n s f) (h0 : a = none → n = 0 ∧ c = 0) :
    Calls Try.prog 7 #[.slice a n c] w fun e w' => ∃ a', e = .returned (.slice a' n n) ∧ Rw w' a' n s f ∧ Below w.heap.size w w' := by
  cases a with
  | none =>
    obtain ⟨rfl, rfl⟩ := h0 rfl
    exact (list_nil w).mono fun e w' ⟨he, hw⟩ => ⟨none, he, .inl rfl, by rw [hw]; exact Below.refl _ _⟩
  | some x => exact (list_some x n c s f w hn hr).mono fun e w' ⟨he, h1, h2⟩ => ⟨_, he, h1, h2⟩

/-- The repository lies in block 'br' with its replicas, which read as the rows do; nothing that was in 'w0' has turned. -/
def St (w0 : World) (br : Nat) (a a' : Option Addr) (n : Nat) (s : Nat → ByteArray) (f : Nat → Int) (wr : World) : Prop :=
  Below w0.heap.size w0 wr ∧ wr.cell? ⟨br, 4, none⟩ = some (.slice a' n n) ∧ Rw wr a' n s f ∧ Rw wr a n s f

theorem St.later {w0 : World} {br : Nat} {a a' : Option Addr} {n : Nat} {s : Nat → ByteArray} {f : Nat → Int} {wr w' : World} (h : St w0 br a a' n s f wr) (hb : Below wr.heap.size wr w') : St w0 br a a' n s f w' :=
  ⟨h.1.trans (hb.mono h.1.size), cell_later hb h.2.1, h.2.2.1.later hb, h.2.2.2.later hb⟩

theorem St.start {w0 w3 : World} {a a' : Option Addr} {n : Nat} {s : Nat → ByteArray} {f : Nat → Int} (v0 v1 v2 v3 : Value) (hb : Below w0.heap.size w0 w3) (h1 : Rw w3 a' n s f) (h2 : Rw w3 a n s f) :
    St w0 w3.heap.size a a' n s f (w3.alloc (.cells #[v0, v1, v2, v3, .slice a' n n] 31)) := by
  have hB : Below w3.heap.size w3 (w3.alloc (.cells #[v0, v1, v2, v3, .slice a' n n] 31)) := (Below.refl _ _).alloc (Nat.le_refl _) _
  exact ⟨hb.alloc hb.size _, by simp, h1.later hB, h2.later hB⟩

set_option maxHeartbeats 1000000 in
set_option maxRecDepth 100000 in
theorem each_any (i0 : Int) (s1 s2 s3 st : ByteArray) (a : Option Addr) (n c : Nat) (s : Nat → ByteArray) (f : Nat → Int) (w : World) (hr : Rw w a n s f) (h0 : a = none → n = 0 ∧ c = 0) (hm : n ≤ maxLen) :
    Calls Try.prog 4 #[.int .i64 i0, .string s1, .string s2, .string s3, .slice a n c, .string st] w fun e w' => e = .returned (.bool true) ∧ Below w.heap.size w w' := by
  have Hr : Hid (Rw w a n s f) := hr
  have H0 : Hid (a = none → n = 0 ∧ c = 0) := h0
  clear hr h0
  go_enter Try.func4, Try.ntmps4
  go_wp2_with fail
  refine (bytes9_any _ _ _ _ _ _ _ _ s f _ Hr.out).mono ?_
  rintro e w1 ⟨⟨v, rfl, -⟩, rfl⟩
  cases v
  · go_wp2
    go_ret
    exact ⟨rfl, Below.refl _ _⟩
  go_wp2_with fail
  refine (tooBig_any _ _ _ _ _ _ _ _ s f _ Hr.out).mono ?_
  rintro e w2 ⟨⟨v, rfl, hv⟩, rfl⟩
  cases v
  case true =>
    go_wp2
    go_ret
    exact ⟨rfl, Below.refl _ _⟩
  have hn : n ≤ 65536 := hv rfl
  clear hv hm
  go_wp2
  go_loopw [13] (fun i wr => ∃ t : Nat, 1 ≤ t ∧ (t ≤ n ∨ t = 1) ∧ i = .int .i64 t ∧ (∀ i, 1 ≤ i → i < t → Op.bytesLess (s (i - 1)).toList (s i).toList = true) ∧ Below w2.heap.size w2 wr) (fun i _ => n - (intOf i).toNat)
  case atStart => exact ⟨1, Nat.le_refl _, .inr rfl, rfl, fun i _ _ => by omega, Below.refl _ _⟩
  case round =>
    obtain ⟨t, ht1, htn, rfl, hs, hb⟩ := hrel
    have HS : Hid (∀ i, 1 ≤ i → i < t → Op.bytesLess (s (i - 1)).toList (s i).toList = true) := hs
    have HB : Hid (Below w2.heap.size w2 wr) := hb
    clear hs
    by_cases hlt : t < n
    · rcases Hr.out with h0 | ⟨b, off, rfl, hc⟩
      · omega
      have c0 := cell_later hb (hc t hlt).1
      have c1 := cell_later hb (hc (t - 1) (by omega)).1
      have hlt' : (t : Int) < (n : Int) := by omega
      clear hc hb
      cases hl : Op.bytesLess (s (t - 1)).toList (s t).toList
      · go_wp2
        go_quiet (fail)
        go_wp2
        go_ret
        exact ⟨rfl, below_drewN HB.out _⟩
      · go_wp2
        go_quiet (fail)
        go_wp2
        go_roundw
        case rel => exact ⟨t + 1, by omega, .inl (by omega), by go_num, fun i h1 h2 => by
          by_cases e : i = t
          · subst e; exact hl
          · exact HS.out i h1 (by omega), below_drewN HB.out _⟩
        case measure => simp [intOf]; omega
    · have SS : Hid (∀ i, 1 ≤ i → i < n → Op.bytesLess (s (i - 1)).toList (s i).toList = true) := fun i h1 h2 => HS.out i h1 (by omega)
      clear hb HS
      have RW : Hid (Rw wr a n s f) := Hr.out.later HB.out
      go_wp2_with fail
      refine (list_any _ _ _ s f _ (by omega) RW.out H0.out).mono ?_
      rintro e w3 ⟨a', rfl, hr3, hb3⟩
      have R3 : Hid (Rw w3 a' n s f) := hr3
      have R4 : Hid (Rw w3 a n s f) := RW.out.later hb3
      have B3 : Hid (Below w2.heap.size w2 w3) := HB.out.trans (hb3.mono HB.out.size)
      clear hr3 hb3 RW HB
      go_wp2
      go_loopw [15] (fun i wr => ∃ t : Nat, t ≤ n ∧ i = .int .i64 t ∧ St w2 w3.heap.size a a' n s f wr) (fun i _ => n - (intOf i).toNat)
      case atStart => exact ⟨0, Nat.zero_le _, rfl, St.start _ _ _ _ B3.out R3.out R4.out⟩
      case round =>
        clear R3 R4 B3
        obtain ⟨t2, ht2, rfl, hS⟩ := hrel
        have HS : Hid (St w2 w3.heap.size a a' n s f wr) := hS
        by_cases hlt2 : t2 < n
        · rcases hS.2.2.2 with h0 | ⟨b, off, rfl, hc⟩
          · omega
          have c0 := (hc t2 hlt2).1
          have hlt' : (t2 : Int) < (n : Int) := by omega
          clear hc hS
          go_wp2_with fail
          refine (rep_yes _ _ _ _ s f _ t2 _ (by omega) HS.out.2.2.1 HS.out.2.1 hlt2 (same_iff.2 rfl) (first_own s n SS.out hlt2 (same_iff.2 rfl))).mono ?_
          rintro e w5 ⟨rfl, hb5⟩
          have S5 : Hid (St w2 w3.heap.size (some ⟨b, off, none⟩) a' n s f w5) := HS.out.later hb5
          obtain ⟨d0, d1⟩ : w5.cell? ⟨b, off + t2 * 2, none⟩ = some (.string (s t2)) ∧ w5.cell? ⟨b, off + t2 * 2 + 1, none⟩ = some (.int .i64 (f t2)) := by
            rcases S5.out.2.2.2 with h0 | ⟨b', off', hx, hc⟩
            · omega
            · simp only [Option.some.injEq, Addr.mk.injEq, and_true] at hx
              obtain ⟨rfl, rfl⟩ := hx
              exact hc t2 hlt2
          have hbn : b < w5.heap.size := World.block_lt_of_cell? w5 _ d0
          have hbn' : w5.heap.size ≠ b := by omega
          clear c0 HS hb5
          go_wp2
          go_quiet (fail)
          go_wp2
          go_roundw
          case rel => exact ⟨t2 + 1, by omega, by go_num, S5.out.later (below_drewN ((Below.refl _ _).alloc (Nat.le_refl _) _) _)⟩
          case measure => simp [intOf]; omega
        · clear hS
          by_cases hY : ∃ k, k < n ∧ same (s k) st = true
          · obtain ⟨k, hk, hsk⟩ := hY
            have LN : Hid (∀ j, k < j → j < n → same (s j) st = false) := later_not s n SS.out hsk
            have FO : Hid (∀ j, j < k → same (s j) st = false) := first_own s n SS.out hk hsk
            have SK : Hid (same (s k) st = true) := hsk
            clear hsk
            go_wp2
            go_loop [18, 19] (fun x i => ∃ t3 : Nat, t3 ≤ n ∧ i = .int .i64 t3 ∧ x = .int .i64 (if t3 ≤ k then -1 else (k : Int))) (fun _ i => n - (intOf i).toNat)
            case atStart => exact ⟨0, Nat.zero_le _, rfl, by simp⟩
            case round =>
              obtain ⟨t3, ht3, rfl, rfl⟩ := hrel
              by_cases hlt3 : t3 < n
              · rcases HS.out.2.2.2 with h0 | ⟨b, off, rfl, hc⟩
                · omega
                have c0 := (hc t3 hlt3).1
                have hlt' : (t3 : Int) < (n : Int) := by omega
                clear hc
                by_cases e : t3 = k
                · subst e
                  have hq : ((s t3).toList == st.toList) = true := SK.out
                  go_wp2
                  go_round
                  case rel => exact ⟨t3 + 1, by omega, by go_num, by rw [if_neg (by omega)]⟩
                  case measure => simp [intOf]; omega
                · have hq : ((s t3).toList == st.toList) = false := by
                    by_cases h : t3 < k
                    · exact FO.out t3 h
                    · exact LN.out t3 (by omega) hlt3
                  go_wp2
                  go_round
                  case rel => exact ⟨t3 + 1, by omega, by go_num, by
                    by_cases h : t3 < k
                    · rw [if_pos (by omega), if_pos (by omega)]
                    · rw [if_neg (by omega), if_neg (by omega)]⟩
                  case measure => simp [intOf]; omega
              · have hkk : ¬ t3 ≤ k := by omega
                rw [if_neg hkk]
                go_wp2_with fail
                refine (rep_yes _ _ _ _ s f _ k _ (by omega) HS.out.2.2.1 HS.out.2.1 hk SK.out FO.out).mono ?_
                rintro e w5 ⟨rfl, hb5⟩
                have S5 : Hid (St w2 w3.heap.size a a' n s f w5) := HS.out.later hb5
                clear hb5 HS
                rcases S5.out.2.2.2 with h0 | ⟨b, off, rfl, hc⟩
                · omega
                obtain ⟨d0, d1⟩ := hc k hk
                have hbn : b < w5.heap.size := World.block_lt_of_cell? w5 _ d0
                have hbn' : w5.heap.size ≠ b := by omega
                have hlt' : (k : Int) < (n : Int) := by omega
                clear hc
                go_wp2
                go_quiet (fail)
                go_wp2
                go_ret
                exact ⟨rfl, (S5.out.later (below_drewN ((Below.refl _ _).alloc (Nat.le_refl _) _) _)).1⟩
          · have NO : Hid (∀ j, j < n → same (s j) st = false) := fun j hj => by
              cases e : same (s j) st
              · rfl
              · exact absurd ⟨j, hj, e⟩ hY
            clear hY
            go_wp2
            go_loop [18, 19] (fun x i => ∃ t3 : Nat, t3 ≤ n ∧ i = .int .i64 t3 ∧ x = .int .i64 (-1)) (fun _ i => n - (intOf i).toNat)
            case atStart => exact ⟨0, Nat.zero_le _, rfl, rfl⟩
            case round =>
              obtain ⟨t3, ht3, rfl, rfl⟩ := hrel
              by_cases hlt3 : t3 < n
              · rcases HS.out.2.2.2 with h0 | ⟨b, off, rfl, hc⟩
                · omega
                have c0 := (hc t3 hlt3).1
                have hlt' : (t3 : Int) < (n : Int) := by omega
                clear hc
                have hq : ((s t3).toList == st.toList) = false := NO.out t3 hlt3
                go_wp2
                go_round
                case rel => exact ⟨t3 + 1, by omega, by go_num, rfl⟩
                case measure => simp [intOf]; omega
              · go_wp2_with fail
                refine (rep_no _ _ _ _ s f _ _ (by omega) HS.out.2.2.1 HS.out.2.1 NO.out).mono ?_
                rintro e w5 ⟨rfl, hb5⟩
                have S5 : Hid (St w2 w3.heap.size a a' n s f w5) := HS.out.later hb5
                clear hb5 HS
                go_wp2
                go_ret
                exact ⟨rfl, (S5.out.later ((Below.refl _ _).alloc (Nat.le_refl _) _)).1⟩
end Go.Proofs.Qxb6628976a
