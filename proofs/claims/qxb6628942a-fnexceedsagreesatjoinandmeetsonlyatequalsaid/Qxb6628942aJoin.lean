import Derived.Test.Qxb6628942aOwn
namespace Go.Proofs.Qxb6628942a.Join
open Go.ChangeShapes Go.WideShapes Go.ChangeAt Go.RowKit
set_option linter.unusedVariables false

/-! The plain law. -/
theorem least (p : Nat → Prop) (n : Nat) : (∃ k, k < n ∧ p k ∧ ∀ j, j < k → ¬ p j) ∨ ∀ j, j < n → ¬ p j := by
  induction n with
  | zero => exact .inr fun j hj => by omega
  | succ n ih =>
    rcases ih with ⟨k, hk, h1, h2⟩ | h
    · exact .inl ⟨k, by omega, h1, h2⟩
    · by_cases hp : p n
      · exact .inl ⟨n, by omega, hp, h⟩
      · refine .inr fun j hj => ?_
        by_cases e : j = n
        · subst e; exact hp
        · exact h j (by omega)

section
variable {n m : Nat} {f g : Nat → Int}

theorem mx_ge_left (j : Nat) : ent n f j ≤ mx n f m g j := by unfold mx; split <;> omega
theorem mx_ge_right (j : Nat) : ent m g j ≤ mx n f m g j := by unfold mx; split <;> omega

/-- Neither stamp exceeds the join. -/
theorem left_no : ∀ j, j < n → f j ≤ ent (max n m) (mx n f m g) j := by
  intro j hj
  rw [ent_in (n := max n m) (by omega), ← ent_in (f := f) hj]; exact mx_ge_left j
theorem right_no : ∀ j, j < m → g j ≤ ent (max n m) (mx n f m g) j := by
  intro j hj
  rw [ent_in (n := max n m) (by omega), ← ent_in (f := g) hj]; exact mx_ge_right j

/-- Where the first stamp exceeds the second, the join does, there and not before. -/
theorem join_yes (pf : ∀ j, 0 ≤ ent n f j) (pg : ∀ j, 0 ≤ ent m g j) {k : Nat} (hk : k < n) (h1 : ent m g k < f k) (h2 : ∀ j, j < k → f j ≤ ent m g j) :
    ent m g k < mx n f m g k ∧ ∀ j, j < k → mx n f m g j ≤ ent m g j := by
  refine ⟨?_, fun j hj => ?_⟩
  · unfold mx; rw [if_pos (by rw [ent_in hk]; exact h1), ent_in hk]; exact h1
  · have := h2 j hj
    unfold mx; rw [if_neg (by rw [ent_in (n := n) (by omega)]; omega)]; exact Int.le_refl _
theorem join_no (pg : ∀ j, 0 ≤ ent m g j) (h2 : ∀ j, j < n → f j ≤ ent m g j) (N : Nat) : ∀ j, j < N → mx n f m g j ≤ ent m g j := by
  intro j _
  unfold mx
  rw [if_neg ?_]
  · exact Int.le_refl _
  · by_cases hj : j < n
    · have := h2 j hj; rw [ent_in hj]; omega
    · have := pg j; rw [ent_out hj]; omega

/-- Each fails to exceed the other: they agree everywhere. -/
theorem agree (pf : ∀ j, 0 ≤ ent n f j) (pg : ∀ j, 0 ≤ ent m g j) (h1 : ∀ j, j < n → f j ≤ ent m g j) (h2 : ∀ j, j < m → g j ≤ ent n f j) (N : Nat) : ∀ j, j < N → ent n f j = ent m g j := by
  intro j _
  have a1 := pf j
  have a2 := pg j
  by_cases hn : j < n
  · have b1 := h1 j hn
    rw [ent_in hn] at a1 ⊢
    by_cases hm : j < m
    · have b2 := h2 j hm
      rw [ent_in hn] at b2; rw [ent_in hm] at b1 ⊢; omega
    · rw [ent_out hm] at b1 ⊢; omega
  · rw [ent_out hn] at a1 ⊢
    by_cases hm : j < m
    · have b2 := h2 j hm
      rw [ent_out hn] at b2; rw [ent_in hm] at a2 ⊢; omega
    · rw [ent_out hm]

/-- One exceeds the other somewhere: there is a first place at which they part. -/
theorem parts {k : Nat} (hk : k < max n m) (h : ent n f k ≠ ent m g k) : ∃ k, k < max n m ∧ ent n f k ≠ ent m g k ∧ ∀ j, j < k → ent n f j = ent m g j := by
  rcases least (fun j => ent n f j ≠ ent m g j) (max n m) with ⟨k, a, b, c⟩ | h'
  · exact ⟨k, a, b, fun j hj => Classical.byContradiction (c j hj)⟩
  · exact absurd h (h' k hk)
end

theorem below_made {w w1 : World} (h : w.grownBy w1 none) : Below w.heap.size w w1 := (Below.refl _ _).grown h (Nat.le_refl _) (fun k hk => by cases hk)

theorem join_big (a0 a1 : Option Addr) (n c m d : Nat) (w : World) (h1 : n ≤ maxLen) (h2 : m ≤ maxLen) (h : 65536 < n ∨ 65536 < m) :
    Calls Try.prog 4 #[.slice a0 n c, .slice a1 m d] w fun e w' => e = .returned (.bool true) ∧ w' = w := by
  by_cases x1 : 65536 < n
  · go_enter Try.func4, Try.ntmps4
    go_wp2_with fail
    refine (bytes2_any _ _ _ _ _ _ _ h1 h2).mono ?_
    rintro e w' ⟨v, rfl, rfl⟩
    cases v
    all_goals (go_wp2; go_ret; exact ⟨rfl, rfl⟩)
  have x2 : 65536 < m := by omega
  go_enter Try.func4, Try.ntmps4
  go_wp2_with fail
  refine (bytes2_any _ _ _ _ _ _ _ h1 h2).mono ?_
  rintro e w' ⟨v, rfl, rfl⟩
  cases v
  all_goals (go_wp2; go_ret; exact ⟨rfl, rfl⟩)

set_option maxHeartbeats 1000000 in
set_option maxRecDepth 100000 in
theorem join_small (a0 a1 : Option Addr) (n c m d : Nat) (f g : Nat → Int) (w : World) (h1 : n ≤ 65536) (h2 : m ≤ 65536)
    (n0 : a0 = none → n = 0 ∧ c = 0) (n1 : a1 = none → m = 0 ∧ d = 0)
    (r0 : Rd w a0 n f) (r1 : Rd w a1 m g) (pf : ∀ j, 0 ≤ ent n f j) (pg : ∀ j, 0 ≤ ent m g j) :
    Calls Try.prog 4 #[.slice a0 n c, .slice a1 m d] w fun e w' => e = .returned (.bool true) ∧ Below w.heap.size w w' := by
  have R0 : Hid (Rd w a0 n f) := r0
  have R1 : Hid (Rd w a1 m g) := r1
  have N0 : Hid (a0 = none → n = 0 ∧ c = 0) := n0
  have N1 : Hid (a1 = none → m = 0 ∧ d = 0) := n1
  have PF : Hid (∀ j, 0 ≤ ent n f j) := pf
  have PG : Hid (∀ j, 0 ≤ ent m g j) := pg
  clear r0 r1 n0 n1 pf pg
  have k1 := fun (w : World) (a : Option Addr) (n c n' c' : Nat) => run_neq_slice_nil_any (P := Try.prog) w 22 28 a n c n' c' Try.underlying22
  go_enter Try.func4, Try.ntmps4
  go_wp2_with fail
  refine (bytes2_yes _ _ _ _ _ _ _ h1 h2).mono ?_
  rintro e w' ⟨rfl, rfl⟩
  obtain ⟨i0, hi, hz0, hz1, hz2⟩ := info_parts Try.info28
  have Hi : Hid (Try.prog.info? 28 = some i0) := hi
  have Z0 : Hid (i0.zero = some (.int .u64 0)) := hz0
  have Z1 : Hid (i0.size = 1) := hz1
  have Z2 : Hid (i0.bytes = 8) := hz2
  clear hi hz0 hz1 hz2
  go_upto_if 32 with fail
  go_cut [0] (fun s wc => ∃ ao, s = .slice ao n n ∧ Ow wc ao n f ∧ Below w'.heap.size w' wc)
  case first =>
    cases a0 with
    | none =>
      obtain ⟨e1, e2⟩ := N0.out rfl
      subst e1 e2
      go_wp2
      go_meet
      case rel => exact ⟨none, rfl, .inl ⟨rfl, rfl⟩, Below.refl _ _⟩
    | some x =>
      go_wp2_with (first | (at_make; refine wpList_make_full _ rfl (.tmp 34) (.tmp 34) 22 rfl w'.heap.size 28 i0 (.int .u64 0) 1 Try.underlying22 Hi.out Z0.out Z1.out _ _ _ _ n rfl rfl rfl rfl (by rw [Z2.out]; omega) (by unfold maxLen; omega) (Nat.le_refl _) ?_; intro w1 hown hgrow) | (refine wpList_copy_ow rfl (.tmp 36) (.tmp 37) rfl w'.heap.size n (some x) c rfl rfl w'.heap.size _ hown f (R0.out.later (below_made hgrow)) w' w'.heap.size (below_made hgrow) (Nat.le_refl _) ?_; intro w2 ho2 hb2))
      go_meet
      case rel => exact ⟨_, rfl, ho2, hb2⟩
  obtain ⟨p0, hs0, O0, B0⟩ := hcut
  subst hs0
  obtain ⟨wA, rfl⟩ : ∃ x, x = wc := ⟨_, rfl⟩
  have O0' : Hid (Ow wA p0 n f) := O0
  have B0' : Hid (Below w'.heap.size w' wA) := B0
  clear O0 B0 R0 N0
  go_upto_if 41 with fail
  go_cut [1] (fun s wd => ∃ ao, s = .slice ao m m ∧ Ow wd ao m g ∧ Below wA.heap.size wA wd)
  case first =>
    cases a1 with
    | none =>
      obtain ⟨e1, e2⟩ := N1.out rfl
      subst e1 e2
      go_wp2
      go_meet
      case rel => exact ⟨none, rfl, .inl ⟨rfl, rfl⟩, Below.refl _ _⟩
    | some x =>
      go_wp2_with (first | (at_make; refine wpList_make_full _ rfl (.tmp 43) (.tmp 43) 22 rfl wA.heap.size 28 i0 (.int .u64 0) 1 Try.underlying22 Hi.out Z0.out Z1.out _ _ _ _ m rfl rfl rfl rfl (by rw [Z2.out]; omega) (by unfold maxLen; omega) (Nat.le_refl _) ?_; intro w1 hown hgrow) | (refine wpList_copy_ow rfl (.tmp 45) (.tmp 46) rfl wA.heap.size m (some x) d rfl rfl wA.heap.size _ hown g ((R1.out.later B0'.out).later (below_made hgrow)) wA wA.heap.size (below_made hgrow) (Nat.le_refl _) ?_; intro w2 ho2 hb2))
      go_meet
      case rel => exact ⟨_, rfl, ho2, hb2⟩
  obtain ⟨p1, hs1, O1, B1⟩ := hcut
  subst hs1
  obtain ⟨wB, rfl⟩ : ∃ x, x = wc := ⟨_, rfl⟩
  have O1' : Hid (Ow wB p1 m g) := O1
  have O0'' : Hid (Ow wB p0 n f) := O0'.out.later B1
  have B1' : Hid (Below w'.heap.size w' wB) := B0'.out.trans (B1.mono B0'.out.size)
  clear O1 B1 R1 N1 O0' B0' k1 Hi Z0 Z1 Z2
  go_wp2_with fail
  refine (join_any _ _ _ _ _ _ f g _ (by omega) (by omega) O0''.out.rd O1'.out.rd).mono ?_
  rintro e wD ⟨rfl, hO, hB⟩
  have RM : Hid (Rd wD (some ⟨wB.heap.size, 0, none⟩) (max n m) (mx n f m g)) := hO.rd
  have RS : Hid (Rd wD p0 n f) := (O0''.out.later hB).rd
  have RT : Hid (Rd wD p1 m g) := (O1'.out.later hB).rd
  have BB : Hid (Below w'.heap.size w' wD) := B1'.out.trans (hB.mono B1'.out.size)
  have hN : max n m ≤ 65536 := by omega
  have hN1 : n ≤ max n m := by omega
  have hN2 : m ≤ max n m := by omega
  have LN : Hid (∀ j, j < n → f j ≤ ent (max n m) (mx n f m g) j) := left_no
  have RN : Hid (∀ j, j < m → g j ≤ ent (max n m) (mx n f m g) j) := right_no
  clear hO hB O0'' O1' B1'
  have cs1 : (∃ x, x < n ∧ ent m g x < f x ∧ ∀ j, j < x → f j ≤ ent m g j) ∨ ∀ j, j < n → f j ≤ ent m g j := by
    rcases least (fun j => ent m g j < f j) n with ⟨k, a, b, c⟩ | h
    · exact .inl ⟨k, a, b, fun j hj => Int.not_lt.1 (c j hj)⟩
    · exact .inr fun j hj => Int.not_lt.1 (h j hj)
  have cs2 : (∃ y, y < m ∧ ent n f y < g y ∧ ∀ j, j < y → g j ≤ ent n f j) ∨ ∀ j, j < m → g j ≤ ent n f j := by
    rcases least (fun j => ent n f j < g j) m with ⟨k, a, b, c⟩ | h
    · exact .inl ⟨k, a, b, fun j hj => Int.not_lt.1 (c j hj)⟩
    · exact .inr fun j hj => Int.not_lt.1 (h j hj)
  rcases cs1 with ⟨x, hx, x1, x2⟩ | x0 <;> rcases cs2 with ⟨y, hy, y1, y2⟩ | y0
  · have JY := join_yes PF.out PG.out hx x1 x2
    obtain ⟨z, hz, z1, z2⟩ := parts (n := n) (m := m) (f := f) (g := g) (k := x) (by omega) (by rw [ent_in hx]; omega)
    have JY1 : Hid (ent m g x < mx n f m g x) := JY.1
    have JY2 : Hid (∀ j, j < x → mx n f m g j ≤ ent m g j) := JY.2
    have Z1 : Hid (ent n f z ≠ ent m g z) := z1
    have Z2 : Hid (∀ j, j < z → ent n f j = ent m g j) := z2
    have X1 : Hid (ent m g x < f x) := x1
    have X2 : Hid (∀ j, j < x → f j ≤ ent m g j) := x2
    clear JY z1 z2 x1 x2
    have Y1 : Hid (ent n f y < g y) := y1
    have Y2 : Hid (∀ j, j < y → g j ≤ ent n f j) := y2
    clear y1 y2
    generalize hNe : max n m = N at *
    have HE : Hid (max n m = N) := hNe
    clear hNe
    go_wp2_with fail
    refine (exc_yes _ _ _ _ _ _ f g x _ (by omega) (by exact RS.out) (by exact RT.out) hx X1.out X2.out).mono ?_
    rintro e w5 ⟨rfl, q5, rfl⟩
    go_wp2_with fail
    refine (exc_yes _ _ _ _ _ _ g f y _ (by omega) (by exact RT.out) (by exact RS.out) hy Y1.out Y2.out).mono ?_
    rintro e w6 ⟨rfl, q6, rfl⟩
    go_wp2_with fail
    refine (exc_yes _ _ _ _ _ _ (mx n f m g) g x _ (by omega) (by exact RM.out) (by exact RT.out) (by omega) JY1.out JY2.out).mono ?_
    rintro e w7 ⟨rfl, q7, rfl⟩
    go_wp2_with fail
    refine (exc_no _ _ _ _ _ _ f (mx n f m g) _ (by omega) (by exact RS.out) (by exact RM.out) LN.out).mono ?_
    rintro e w8 ⟨rfl, q8, rfl⟩
    go_wp2_with fail
    refine (exc_no _ _ _ _ _ _ g (mx n f m g) _ (by omega) (by exact RT.out) (by exact RM.out) RN.out).mono ?_
    rintro e w9 ⟨rfl, q9, rfl⟩
    go_wp2_with fail
    refine (same_no _ _ _ _ _ _ f g z _ (by omega) (by omega) (by exact RS.out) (by exact RT.out) (by rw [HE.out]; exact hz) Z1.out Z2.out).mono ?_
    rintro e w10 ⟨rfl, rfl⟩
    go_wp2
    go_ret
    exact ⟨rfl, below_drewN BB.out _⟩
  · have JY := join_yes PF.out PG.out hx x1 x2
    obtain ⟨z, hz, z1, z2⟩ := parts (n := n) (m := m) (f := f) (g := g) (k := x) (by omega) (by rw [ent_in hx]; omega)
    have JY1 : Hid (ent m g x < mx n f m g x) := JY.1
    have JY2 : Hid (∀ j, j < x → mx n f m g j ≤ ent m g j) := JY.2
    have Z1 : Hid (ent n f z ≠ ent m g z) := z1
    have Z2 : Hid (∀ j, j < z → ent n f j = ent m g j) := z2
    have X1 : Hid (ent m g x < f x) := x1
    have X2 : Hid (∀ j, j < x → f j ≤ ent m g j) := x2
    clear JY z1 z2 x1 x2
    have Y0 : Hid (∀ j, j < m → g j ≤ ent n f j) := y0
    clear y0
    generalize hNe : max n m = N at *
    have HE : Hid (max n m = N) := hNe
    clear hNe
    go_wp2_with fail
    refine (exc_yes _ _ _ _ _ _ f g x _ (by omega) (by exact RS.out) (by exact RT.out) hx X1.out X2.out).mono ?_
    rintro e w5 ⟨rfl, q5, rfl⟩
    go_wp2_with fail
    refine (exc_no _ _ _ _ _ _ g f _ (by omega) (by exact RT.out) (by exact RS.out) Y0.out).mono ?_
    rintro e w6 ⟨rfl, q6, rfl⟩
    go_wp2_with fail
    refine (exc_yes _ _ _ _ _ _ (mx n f m g) g x _ (by omega) (by exact RM.out) (by exact RT.out) (by omega) JY1.out JY2.out).mono ?_
    rintro e w7 ⟨rfl, q7, rfl⟩
    go_wp2_with fail
    refine (exc_no _ _ _ _ _ _ f (mx n f m g) _ (by omega) (by exact RS.out) (by exact RM.out) LN.out).mono ?_
    rintro e w8 ⟨rfl, q8, rfl⟩
    go_wp2_with fail
    refine (exc_no _ _ _ _ _ _ g (mx n f m g) _ (by omega) (by exact RT.out) (by exact RM.out) RN.out).mono ?_
    rintro e w9 ⟨rfl, q9, rfl⟩
    go_wp2_with fail
    refine (same_no _ _ _ _ _ _ f g z _ (by omega) (by omega) (by exact RS.out) (by exact RT.out) (by rw [HE.out]; exact hz) Z1.out Z2.out).mono ?_
    rintro e w10 ⟨rfl, rfl⟩
    go_wp2
    go_ret
    exact ⟨rfl, below_drewN BB.out _⟩
  · have JN : Hid (∀ j, j < max n m → mx n f m g j ≤ ent m g j) := join_no PG.out x0 _
    have X0 : Hid (∀ j, j < n → f j ≤ ent m g j) := x0
    obtain ⟨z, hz, z1, z2⟩ := parts (n := n) (m := m) (f := f) (g := g) (k := y) (by omega) (by rw [ent_in (n := m) hy]; omega)
    have Z1 : Hid (ent n f z ≠ ent m g z) := z1
    have Z2 : Hid (∀ j, j < z → ent n f j = ent m g j) := z2
    clear z1 z2
    clear x0
    have Y1 : Hid (ent n f y < g y) := y1
    have Y2 : Hid (∀ j, j < y → g j ≤ ent n f j) := y2
    clear y1 y2
    generalize hNe : max n m = N at *
    have HE : Hid (max n m = N) := hNe
    clear hNe
    go_wp2_with fail
    refine (exc_no _ _ _ _ _ _ f g _ (by omega) (by exact RS.out) (by exact RT.out) X0.out).mono ?_
    rintro e w5 ⟨rfl, q5, rfl⟩
    go_wp2_with fail
    refine (exc_yes _ _ _ _ _ _ g f y _ (by omega) (by exact RT.out) (by exact RS.out) hy Y1.out Y2.out).mono ?_
    rintro e w6 ⟨rfl, q6, rfl⟩
    go_wp2_with fail
    refine (exc_no _ _ _ _ _ _ (mx n f m g) g _ (by omega) (by exact RM.out) (by exact RT.out) JN.out).mono ?_
    rintro e w7 ⟨rfl, q7, rfl⟩
    go_wp2_with fail
    refine (exc_no _ _ _ _ _ _ f (mx n f m g) _ (by omega) (by exact RS.out) (by exact RM.out) LN.out).mono ?_
    rintro e w8 ⟨rfl, q8, rfl⟩
    go_wp2_with fail
    refine (exc_no _ _ _ _ _ _ g (mx n f m g) _ (by omega) (by exact RT.out) (by exact RM.out) RN.out).mono ?_
    rintro e w9 ⟨rfl, q9, rfl⟩
    go_wp2_with fail
    refine (same_no _ _ _ _ _ _ f g z _ (by omega) (by omega) (by exact RS.out) (by exact RT.out) (by rw [HE.out]; exact hz) Z1.out Z2.out).mono ?_
    rintro e w10 ⟨rfl, rfl⟩
    go_wp2
    go_ret
    exact ⟨rfl, below_drewN BB.out _⟩
  · have JN : Hid (∀ j, j < max n m → mx n f m g j ≤ ent m g j) := join_no PG.out x0 _
    have X0 : Hid (∀ j, j < n → f j ≤ ent m g j) := x0
    have AG : Hid (∀ j, j < max n m → ent n f j = ent m g j) := agree PF.out PG.out x0 y0 _
    clear x0
    have Y0 : Hid (∀ j, j < m → g j ≤ ent n f j) := y0
    clear y0
    generalize hNe : max n m = N at *
    have HE : Hid (max n m = N) := hNe
    clear hNe
    go_wp2_with fail
    refine (exc_no _ _ _ _ _ _ f g _ (by omega) (by exact RS.out) (by exact RT.out) X0.out).mono ?_
    rintro e w5 ⟨rfl, q5, rfl⟩
    go_wp2_with fail
    refine (exc_no _ _ _ _ _ _ g f _ (by omega) (by exact RT.out) (by exact RS.out) Y0.out).mono ?_
    rintro e w6 ⟨rfl, q6, rfl⟩
    go_wp2_with fail
    refine (exc_no _ _ _ _ _ _ (mx n f m g) g _ (by omega) (by exact RM.out) (by exact RT.out) JN.out).mono ?_
    rintro e w7 ⟨rfl, q7, rfl⟩
    go_wp2_with fail
    refine (exc_no _ _ _ _ _ _ f (mx n f m g) _ (by omega) (by exact RS.out) (by exact RM.out) LN.out).mono ?_
    rintro e w8 ⟨rfl, q8, rfl⟩
    go_wp2_with fail
    refine (exc_no _ _ _ _ _ _ g (mx n f m g) _ (by omega) (by exact RT.out) (by exact RM.out) RN.out).mono ?_
    rintro e w9 ⟨rfl, q9, rfl⟩
    go_wp2_with fail
    refine (same_yes _ _ _ _ _ _ f g _ (by omega) (by omega) (by exact RS.out) (by exact RT.out) (by rw [HE.out]; exact AG.out)).mono ?_
    rintro e w10 ⟨rfl, rfl⟩
    go_wp2
    go_ret
    exact ⟨rfl, below_drewN BB.out _⟩
end Go.Proofs.Qxb6628942a.Join
