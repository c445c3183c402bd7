import Derived.Test.Qxb6628942aOwn
namespace Go.Proofs.Qxb6628942a
open Go.ChangeShapes Go.WideShapes Go.ChangeAt Go.RowKit
set_option linter.unusedVariables false

/-! The plain law. -/
theorem least (p : Nat → Prop) (n : Nat) : (∃ k, k < n ∧ p k ∧ ∀ j, j < k → ¬ p j) ∨ ∀ j, j < n → ¬ p j := by
  induction n with
  | zero => exact .inr fun j hj => by omega
  | succ n ih =>
    rcases ih with ⟨k, hk, h1, h2⟩ | h
    · exact .inl ⟨k, by omega, h1, h2⟩
    · by_cases hp : p n
      · exact .inl ⟨n, by omega, hp, h⟩
      · refine .inr fun j hj => ?_
        by_cases e : j = n
        · subst e; exact hp
        · exact h j (by omega)

def cat (la : Nat) (fa fb : Nat → Int) (i : Nat) : Int := if i < la then fa i else fb (i - la)
def shift (la : Nat) (ft : Nat → Int) (i : Nat) : Int := ft (la + i)
theorem cat_lo {la : Nat} {fa fb : Nat → Int} {i : Nat} (h : i < la) : cat la fa fb i = fa i := by simp [cat, h]
theorem cat_hi {la : Nat} {fa fb : Nat → Int} {i : Nat} : cat la fa fb (la + i) = fb i := by
  unfold cat; rw [if_neg (by omega), Nat.add_sub_cancel_left]
theorem ent_shift (la lt : Nat) (ft : Nat → Int) (i : Nat) : ent lt ft (la + i) = ent (lt - la) (shift la ft) i := by
  unfold ent shift
  by_cases h : la + i < lt
  · rw [if_pos h, if_pos (by omega)]
  · rw [if_neg h, if_neg (by omega)]

/-- Each way: at which place the joined stamp exceeds, if at one. -/
theorem ways (la lb lt : Nat) (fa fb ft : Nat → Int) :
    (∃ k, k < la ∧ ent lt ft k < fa k ∧ (∀ j, j < k → fa j ≤ ent lt ft j) ∧ ent lt ft k < cat la fa fb k ∧ (∀ j, j < k → cat la fa fb j ≤ ent lt ft j)) ∨
    (∃ k, k < lb ∧ (∀ j, j < la → fa j ≤ ent lt ft j) ∧ ent (lt - la) (shift la ft) k < fb k ∧ (∀ j, j < k → fb j ≤ ent (lt - la) (shift la ft) j) ∧
      ent lt ft (la + k) < cat la fa fb (la + k) ∧ (∀ j, j < la + k → cat la fa fb j ≤ ent lt ft j)) ∨
    ((∀ j, j < la → fa j ≤ ent lt ft j) ∧ (∀ j, j < lb → fb j ≤ ent (lt - la) (shift la ft) j) ∧ (∀ j, j < la + lb → cat la fa fb j ≤ ent lt ft j)) := by
  rcases least (fun j => ent lt ft j < fa j) la with ⟨k, hk, h1, h2⟩ | hA
  · refine .inl ⟨k, hk, h1, fun j hj => Int.not_lt.1 (h2 j hj), by rw [cat_lo hk]; exact h1, fun j hj => ?_⟩
    rw [cat_lo (by omega)]; exact Int.not_lt.1 (h2 j hj)
  rcases least (fun j => ent (lt - la) (shift la ft) j < fb j) lb with ⟨k, hk, h1, h2⟩ | hB
  · refine .inr (.inl ⟨k, hk, fun j hj => Int.not_lt.1 (hA j hj), h1, fun j hj => Int.not_lt.1 (h2 j hj), by rw [cat_hi, ent_shift]; exact h1, fun j hj => ?_⟩)
    by_cases h : j < la
    · rw [cat_lo h]; exact Int.not_lt.1 (hA j h)
    · obtain ⟨i, rfl⟩ : ∃ i, j = la + i := ⟨j - la, by omega⟩
      rw [cat_hi, ent_shift]; exact Int.not_lt.1 (h2 i (by omega))
  · refine .inr (.inr ⟨fun j hj => Int.not_lt.1 (hA j hj), fun j hj => Int.not_lt.1 (hB j hj), fun j hj => ?_⟩)
    by_cases h : j < la
    · rw [cat_lo h]; exact Int.not_lt.1 (hA j h)
    · obtain ⟨i, rfl⟩ : ∃ i, j = la + i := ⟨j - la, by omega⟩
      rw [cat_hi, ent_shift]; exact Int.not_lt.1 (hB i (by omega))

/-- The same against 'beforeOrSame', which looks at every process of either stamp. -/
theorem bor_ge (ls lt : Nat) (fs ft : Nat → Int) (hf : ∀ i, 0 ≤ ent lt ft i) (m : Nat) (h : ∀ j, j < ls → fs j ≤ ent lt ft j) : ∀ j, j < m → ent ls fs j ≤ ent lt ft j := by
  intro j _
  by_cases hj : j < ls
  · rw [ent_in hj]; exact h j hj
  · rw [ent_out hj]; exact hf j

theorem below_made {w w1 : World} (h : w.grownBy w1 none) : Below w.heap.size w w1 := (Below.refl _ _).grown h (Nat.le_refl _) (fun k hk => by cases hk)

theorem below_app {B : Nat} {w0 w w' : World} {g : Nat} (h : Below B w0 w) (hg : w.grownBy w' (some g)) (hB : B ≤ w0.heap.size) (hr : B ≤ g) : Below B w0 w' :=
  h.grown hg (Nat.le_trans hB h.size) (fun k hk => by cases hk; exact hr)

theorem Ow.nil {w : World} {a : Option Addr} {n : Nat} {f : Nat → Int} (h : Ow w a n f) (ha : a = none) : n = 0 ∧ n = 0 := by
  rcases h with ⟨_, h⟩ | ⟨g, h, hc⟩
  · exact ⟨h, h⟩
  · rw [ha] at h; cases h

theorem Ow.cells {w : World} {a : Option Addr} {n : Nat} {f : Nat → Int} (h : Ow w a n f) (ad : Addr) (ha : a = some ad) : ∀ j u, (cellsOf n f)[j]? = some u → w.cell? (ad.add j) = some u := by
  intro j u hj
  obtain ⟨hjn, rfl⟩ := cellsOf_get' hj
  rcases h with ⟨h, _⟩ | ⟨g, h, hc⟩
  · rw [ha] at h; cases h
  · rw [ha] at h; cases h
    rw [add_plain]; simpa using hc j hjn

theorem cat_cells (la lb : Nat) (fa fb : Nat → Int) (i : Nat) (h : i < la + lb) : (cellsOf la fa ++ cellsOf lb fb)[i]? = some (.int .u64 (cat la fa fb i)) := by
  by_cases hi : i < la
  · rw [List.getElem?_append_left (by rw [cellsOf_length]; exact hi), cat_lo hi, cellsOf_get _ _ _ hi]
  · obtain ⟨j, rfl⟩ : ∃ j, i = la + j := ⟨i - la, by omega⟩
    rw [List.getElem?_append_right (by rw [cellsOf_length]; omega), cat_hi, cellsOf_length, Nat.add_sub_cancel_left, cellsOf_get _ _ _ (by omega)]

theorem Ow.rest {w : World} {a : Option Addr} {lt : Nat} {ft : Nat → Int} (la : Nat) (h : Ow w a lt ft) (hl : la < lt) :
    ∃ g, a = some ⟨g, 0, none⟩ ∧ Rd w (some ⟨g, la, none⟩) (lt - la) (shift la ft) := by
  rcases h with ⟨_, h⟩ | ⟨g, h, hc⟩
  · omega
  · exact ⟨g, h, .inr ⟨g, la, rfl, fun i hi => hc (la + i) (by omega)⟩⟩

theorem exc_some (a b : Option Addr) (n c m d : Nat) (f g : Nat → Int) (w : World) (hn : n ≤ 1000000) (hr : Rd w a n f) (hg : Rd w b m g) :
    Calls Try.prog 6 #[.slice a n c, .slice b m d] w fun e w' => ∃ (i : Nat) (ok : Bool), i ≤ n ∧ e = .returned (.tuple #[.int .i64 i, .bool ok]) ∧ ∃ q, w' = w.drewN q := by
  rcases least (fun j => ent m g j < f j) n with ⟨k, hk, h1, h2⟩ | hA
  · exact (exc_yes a b n c m d f g k w hn hr hg hk h1 fun j hj => Int.not_lt.1 (h2 j hj)).mono fun e w' ⟨he, hw⟩ => ⟨k, true, by omega, he, hw⟩
  · exact (exc_no a b n c m d f g w hn hr hg fun j hj => Int.not_lt.1 (hA j hj)).mono fun e w' ⟨he, hw⟩ => ⟨0, false, by omega, he, hw⟩

theorem split_big (a0 a1 a2 : Option Addr) (n c m d l k : Nat) (w : World) (h1 : n ≤ maxLen) (h2 : m ≤ maxLen) (h3 : l ≤ maxLen) (h : 32768 < n ∨ 32768 < m ∨ 32768 < l) :
    Calls Try.prog 3 #[.slice a0 n c, .slice a1 m d, .slice a2 l k] w fun e w' => e = .returned (.bool true) ∧ w' = w := by
  by_cases x1 : 32768 < n
  · go_enter Try.func3, Try.ntmps3
    go_wp2_with fail
    refine (bytes3_any _ _ _ _ _ _ _ _ _ _ h1 h2 h3).mono ?_
    rintro e w' ⟨v, rfl, rfl⟩
    cases v
    all_goals (go_wp2; go_ret; exact ⟨rfl, rfl⟩)
  by_cases x2 : 32768 < m
  · go_enter Try.func3, Try.ntmps3
    go_wp2_with fail
    refine (bytes3_any _ _ _ _ _ _ _ _ _ _ h1 h2 h3).mono ?_
    rintro e w' ⟨v, rfl, rfl⟩
    cases v
    all_goals (go_wp2; go_ret; exact ⟨rfl, rfl⟩)
  have x3 : 32768 < l := by omega
  go_enter Try.func3, Try.ntmps3
  go_wp2_with fail
  refine (bytes3_any _ _ _ _ _ _ _ _ _ _ h1 h2 h3).mono ?_
  rintro e w' ⟨v, rfl, rfl⟩
  cases v
  all_goals (go_wp2; go_ret; exact ⟨rfl, rfl⟩)

set_option maxHeartbeats 1000000 in
set_option maxRecDepth 100000 in
theorem split_small (a0 a1 a2 : Option Addr) (la c lb d lt k : Nat) (fa fb ft : Nat → Int) (w : World) (h1 : la ≤ 32768) (h2 : lb ≤ 32768) (h3 : lt ≤ 32768)
    (n0 : a0 = none → la = 0 ∧ c = 0) (n1 : a1 = none → lb = 0 ∧ d = 0) (n2 : a2 = none → lt = 0 ∧ k = 0)
    (r0 : Rd w a0 la fa) (r1 : Rd w a1 lb fb) (r2 : Rd w a2 lt ft) (pos : ∀ i, 0 ≤ ent lt ft i) :
    Calls Try.prog 3 #[.slice a0 la c, .slice a1 lb d, .slice a2 lt k] w fun e w' => e = .returned (.bool true) ∧ Below w.heap.size w w' := by
  have R0 : Hid (Rd w a0 la fa) := r0
  have R1 : Hid (Rd w a1 lb fb) := r1
  have R2 : Hid (Rd w a2 lt ft) := r2
  have N0 : Hid (a0 = none → la = 0 ∧ c = 0) := n0
  have N1 : Hid (a1 = none → lb = 0 ∧ d = 0) := n1
  have N2 : Hid (a2 = none → lt = 0 ∧ k = 0) := n2
  have POS : Hid (∀ i, 0 ≤ ent lt ft i) := pos
  clear r0 r1 r2 n0 n1 n2 pos
  have k1 := fun (w : World) (a : Option Addr) (n c n' c' : Nat) => run_neq_slice_nil_any (P := Try.prog) w 22 28 a n c n' c' Try.underlying22
  go_enter Try.func3, Try.ntmps3
  go_wp2_with fail
  refine (bytes3_yes _ _ _ _ _ _ _ _ _ _ h1 h2 h3).mono ?_
  rintro e w' ⟨rfl, rfl⟩
  obtain ⟨i0, hi, hz0, hz1, hz2⟩ := info_parts Try.info28
  have Hi : Hid (Try.prog.info? 28 = some i0) := hi
  have Z0 : Hid (i0.zero = some (.int .u64 0)) := hz0
  have Z1 : Hid (i0.size = 1) := hz1
  have Z2 : Hid (i0.bytes = 8) := hz2
  clear hi hz0 hz1 hz2
  go_upto_if 35 with fail
  go_cut [0] (fun s wc => ∃ ao, s = .slice ao la la ∧ Ow wc ao la fa ∧ Below w'.heap.size w' wc)
  case first =>
    cases a0 with
    | none =>
      obtain ⟨e1, e2⟩ := N0.out rfl
      subst e1 e2
      go_wp2
      go_meet
      case rel => exact ⟨none, rfl, .inl ⟨rfl, rfl⟩, Below.refl _ _⟩
    | some x =>
      go_wp2_with (first | (at_make; refine wpList_make_full _ rfl (.tmp 37) (.tmp 37) 22 rfl w'.heap.size 28 i0 (.int .u64 0) 1 Try.underlying22 Hi.out Z0.out Z1.out _ _ _ _ la rfl rfl rfl rfl (by rw [Z2.out]; omega) (by unfold maxLen; omega) (Nat.le_refl _) ?_; intro w1 hown hgrow) | (refine wpList_copy_ow rfl (.tmp 39) (.tmp 40) rfl w'.heap.size la (some x) c rfl rfl w'.heap.size _ hown fa (R0.out.later (below_made hgrow)) w' w'.heap.size (below_made hgrow) (Nat.le_refl _) ?_; intro w2 ho2 hb2))
      go_meet
      case rel => exact ⟨_, rfl, ho2, hb2⟩
  obtain ⟨p0, hs0, O0, B0⟩ := hcut
  subst hs0
  obtain ⟨wA, rfl⟩ : ∃ x, x = wc := ⟨_, rfl⟩
  have O0' : Hid (Ow wA p0 la fa) := O0
  have B0' : Hid (Below w'.heap.size w' wA) := B0
  clear O0 B0 R0 N0
  go_upto_if 44 with fail
  go_cut [1] (fun s wd => ∃ ao, s = .slice ao lb lb ∧ Ow wd ao lb fb ∧ Below wA.heap.size wA wd)
  case first =>
    cases a1 with
    | none =>
      obtain ⟨e1, e2⟩ := N1.out rfl
      subst e1 e2
      go_wp2
      go_meet
      case rel => exact ⟨none, rfl, .inl ⟨rfl, rfl⟩, Below.refl _ _⟩
    | some x =>
      go_wp2_with (first | (at_make; refine wpList_make_full _ rfl (.tmp 46) (.tmp 46) 22 rfl wA.heap.size 28 i0 (.int .u64 0) 1 Try.underlying22 Hi.out Z0.out Z1.out _ _ _ _ lb rfl rfl rfl rfl (by rw [Z2.out]; omega) (by unfold maxLen; omega) (Nat.le_refl _) ?_; intro w1 hown hgrow) | (refine wpList_copy_ow rfl (.tmp 48) (.tmp 49) rfl wA.heap.size lb (some x) d rfl rfl wA.heap.size _ hown fb ((R1.out.later B0'.out).later (below_made hgrow)) wA wA.heap.size (below_made hgrow) (Nat.le_refl _) ?_; intro w2 ho2 hb2))
      go_meet
      case rel => exact ⟨_, rfl, ho2, hb2⟩
  obtain ⟨p1, hs1, O1, B1⟩ := hcut
  subst hs1
  obtain ⟨wB, rfl⟩ : ∃ x, x = wc := ⟨_, rfl⟩
  have O1' : Hid (Ow wB p1 lb fb) := O1
  have O0'' : Hid (Ow wB p0 la fa) := O0'.out.later B1
  have B1' : Hid (Below w'.heap.size w' wB) := B0'.out.trans (B1.mono B0'.out.size)
  clear O1 B1 R1 N1 O0' B0'
  go_upto_if 53 with fail
  go_cut [2] (fun s wd => ∃ ao, s = .slice ao lt lt ∧ Ow wd ao lt ft ∧ Below wB.heap.size wB wd)
  case first =>
    cases a2 with
    | none =>
      obtain ⟨e1, e2⟩ := N2.out rfl
      subst e1 e2
      go_wp2
      go_meet
      case rel => exact ⟨none, rfl, .inl ⟨rfl, rfl⟩, Below.refl _ _⟩
    | some x =>
      go_wp2_with (first | (at_make; refine wpList_make_full _ rfl (.tmp 55) (.tmp 55) 22 rfl wB.heap.size 28 i0 (.int .u64 0) 1 Try.underlying22 Hi.out Z0.out Z1.out _ _ _ _ lt rfl rfl rfl rfl (by rw [Z2.out]; omega) (by unfold maxLen; omega) (Nat.le_refl _) ?_; intro w1 hown hgrow) | (refine wpList_copy_ow rfl (.tmp 57) (.tmp 58) rfl wB.heap.size lt (some x) k rfl rfl wB.heap.size _ hown ft ((R2.out.later B1'.out).later (below_made hgrow)) wB wB.heap.size (below_made hgrow) (Nat.le_refl _) ?_; intro w2 ho2 hb2))
      go_meet
      case rel => exact ⟨_, rfl, ho2, hb2⟩
  obtain ⟨p2, hs2, O2, B2⟩ := hcut
  subst hs2
  obtain ⟨wC, rfl⟩ : ∃ x, x = wc := ⟨_, rfl⟩
  have O2' : Hid (Ow wC p2 lt ft) := O2
  have O1'' : Hid (Ow wC p1 lb fb) := O1'.out.later B2
  have O0' : Hid (Ow wC p0 la fa) := O0''.out.later B2
  have B2' : Hid (Below w'.heap.size w' wC) := B1'.out.trans (B2.mono B1'.out.size)
  clear O2 B2 R2 N2 O1' O0'' B1'
  go_upto_if 78 with (first | (at_make; refine wpList_make_own _ rfl _ (.tmp 65) 22 rfl wC.heap.size 28 i0 (.int .u64 0) 1 Try.underlying22 Hi.out Z0.out Z1.out _ _ _ (la + lb) rfl rfl (by omega) (by rw [Z2.out]; omega) (by unfold maxLen; omega) (Nat.le_refl _) ?_; intro w1 hown1 hgrow1) | (at_builtin; refine wpList_append_fits_any _ rfl (.tmp 67) (.tmp 68) 22 rfl wC.heap.size 28 i0 1 Try.underlying22 Hi.out Z1.out wC.heap.size 0 (la + lb) [] rfl hown1 p0 la la (cellsOf la fa) rfl (by simp [cellsOf_length]) O0'.out.nil (Ow.cells (O0'.out.later (below_made hgrow1))) (cellsOf_one _ _) (by omega) ?_; intro w2 hown2 hgrow2; simp only [Nat.zero_add, List.nil_append] at hown2) | (at_builtin; refine wpList_append_fits_any _ rfl (.tmp 70) (.tmp 71) 22 rfl wC.heap.size 28 i0 1 Try.underlying22 Hi.out Z1.out wC.heap.size la (la + lb) (cellsOf la fa) rfl hown2 p1 lb lb (cellsOf lb fb) rfl (by simp [cellsOf_length]) O1''.out.nil (Ow.cells (O1''.out.later (below_app (below_made hgrow1) hgrow2 (Nat.le_refl _) (Nat.le_refl _)))) (cellsOf_one _ _) (by omega) ?_; intro w3 hown3 hgrow3))
  have B3 : Below wC.heap.size wC w3 := below_app (below_app (below_made hgrow1) hgrow2 (Nat.le_refl _) (Nat.le_refl _)) hgrow3 (Nat.le_refl _) (Nat.le_refl _)
  have S3 : Ow w3 (some ⟨wC.heap.size, 0, none⟩) (la + lb) (cat la fa fb) := Ow.of_row hown3 (cat_cells la lb fa fb)
  have S3' : Hid (Ow w3 (some ⟨wC.heap.size, 0, none⟩) (la + lb) (cat la fa fb)) := S3
  have B3' : Hid (Below wC.heap.size wC w3) := B3
  clear hown1 hgrow1 hown2 hgrow2 hown3 hgrow3 S3 B3
  go_cut [11] (fun s wd => ∃ ar cr, s = .slice ar (lt - la) cr ∧ Rd wd ar (lt - la) (shift la ft) ∧ Below w3.heap.size w3 wd)
  case first =>
    by_cases hl : la < lt
    · obtain ⟨g, hg, hrd⟩ := (O2'.out.later B3'.out).rest la hl
      subst hg
      have Hrd : Hid (Rd w3 (some ⟨g, la, none⟩) (lt - la) (shift la ft)) := hrd
      clear hrd
      have hl' : (la : Int) < (lt : Int) := by omega
      go_wp2
      go_meet
      case rel => exact ⟨_, _, rfl, Hrd.out.later ((Below.refl _ _).alloc (Nat.le_refl _) _), (Below.refl _ _).alloc (Nat.le_refl _) _⟩
    · go_wp2
      go_meet
      case rel => exact ⟨_, 0, by rw [show lt - la = 0 by omega], .inl (by omega), (Below.refl _ _).alloc (Nat.le_refl _) _⟩
  obtain ⟨pr, cr, hsr, hR, hB4⟩ := hcut
  subst hsr
  obtain ⟨wD, rfl⟩ : ∃ x, x = wc := ⟨_, rfl⟩
  have RR : Hid (Rd wD pr (lt - la) (shift la ft)) := hR
  have RS : Hid (Rd wD (some ⟨wC.heap.size, 0, none⟩) (la + lb) (cat la fa fb)) := (S3'.out.later hB4).rd
  have RA : Hid (Rd wD p0 la fa) := ((O0'.out.later B3'.out).later hB4).rd
  have RB : Hid (Rd wD p1 lb fb) := ((O1''.out.later B3'.out).later hB4).rd
  have RT : Hid (Rd wD p2 lt ft) := ((O2'.out.later B3'.out).later hB4).rd
  have RC : Hid (∀ i, i < la + lb → wD.cell? ⟨wC.heap.size, i, none⟩ = some (.int .u64 (cat la fa fb i))) := by
    rcases S3'.out.later hB4 with ⟨h, _⟩ | ⟨g, h, hc⟩
    · cases h
    · simp only [Option.some.injEq, Addr.mk.injEq, and_true] at h
      subst h; exact hc
  have BB : Hid (Below w'.heap.size w' wD) := (B2'.out.trans (B3'.out.mono B2'.out.size)).trans (hB4.mono (Nat.le_trans B2'.out.size B3'.out.size))
  clear hR hB4 S3' B3' O0' O1'' O2' B2' k1 Hi Z0 Z1 Z2
  rcases ways la lb lt fa fb ft with ⟨x, hx, x1, x2, x3, x4⟩ | ⟨x, hx, x0, x1, x2, x3, x4⟩ | ⟨x0, x1, x2⟩
  · have X2 : Hid (∀ j, j < x → fa j ≤ ent lt ft j) := x2
    have X4 : Hid (∀ j, j < x → cat la fa fb j ≤ ent lt ft j) := x4
    have X1 : Hid (ent lt ft x < fa x) := x1
    clear x2 x4 x1
    go_wp2_with fail
    refine (exc_yes _ _ _ _ _ _ _ _ x _ (by omega) RS.out RT.out (by omega) x3 X4.out).mono ?_
    rintro e w5 ⟨rfl, q5, rfl⟩
    go_wp2_with fail
    refine (exc_yes _ _ _ _ _ _ _ _ x _ (by omega) (by exact RA.out) (by exact RT.out) hx X1.out X2.out).mono ?_
    rintro e w6 ⟨rfl, q6, rfl⟩
    go_wp2_with fail
    refine (exc_some _ _ _ _ _ _ _ _ _ (by omega) (by exact RB.out) (by exact RR.out)).mono ?_
    rintro e w7 ⟨i7, ok7, hi7, rfl, q7, rfl⟩
    go_wp2_with fail
    refine (bor_no _ _ _ _ _ _ _ _ (x) _ (by omega) (by omega) (by exact RS.out) (by exact RT.out) (by omega) (by rw [ent_in (n := la + lb) (by omega)]; exact x3) (fun j hj => by rw [ent_in (n := la + lb) (by omega)]; exact X4.out j hj)).mono ?_
    rintro e w8 ⟨rfl, hw8⟩
    have cS : w8.cell? ⟨wC.heap.size, x, none⟩ = some (.int .u64 (cat la fa fb (x))) := by rw [hw8]; exact RC.out (x) (by omega)
    have R8 : Hid (Rd w8 p2 lt ft) := by rw [hw8]; exact RT.out
    have B8 : Hid (Below w'.heap.size w' w8) := by rw [hw8]; exact below_drewN BB.out _
    clear hw8
    have g0 : (0 : Int) ≤ (x : Int) := by omega
    have g2 : (x : Int) < (la : Int) + (lb : Int) := by omega
    go_wp2
    go_quiet ((go_at_call 8; exact Calls.quiet_of_same (entryB_any _ _ _ _ _ _ (by exact R8.out))))
    go_wp2
    go_ret
    exact ⟨rfl, below_drewN B8.out _⟩
  · obtain ⟨y, hy⟩ : ∃ y, y = la + x := ⟨_, rfl⟩
    rw [← hy] at x3 x4
    have y1 : y < la + lb := by omega
    have y2 : ((y : Int) != (la : Int) + (x : Int)) = false := by simp; omega
    clear hy
    have X2 : Hid (∀ j, j < x → fb j ≤ ent (lt - la) (shift la ft) j) := x2
    have X4 : Hid (∀ j, j < y → cat la fa fb j ≤ ent lt ft j) := x4
    have X1 : Hid (ent (lt - la) (shift la ft) x < fb x) := x1
    have X0 : Hid (∀ j, j < la → fa j ≤ ent lt ft j) := x0
    clear x2 x4 x1 x0
    go_wp2_with fail
    refine (exc_yes _ _ _ _ _ _ _ _ y _ (by omega) RS.out RT.out (by omega) x3 X4.out).mono ?_
    rintro e w5 ⟨rfl, q5, rfl⟩
    go_wp2_with fail
    refine (exc_no _ _ _ _ _ _ _ _ _ (by omega) (by exact RA.out) (by exact RT.out) X0.out).mono ?_
    rintro e w6 ⟨rfl, q6, rfl⟩
    go_wp2_with fail
    refine (exc_yes _ _ _ _ _ _ _ _ x _ (by omega) (by exact RB.out) (by exact RR.out) hx X1.out X2.out).mono ?_
    rintro e w7 ⟨rfl, q7, rfl⟩
    go_wp2_with fail
    refine (bor_no _ _ _ _ _ _ _ _ y _ (by omega) (by omega) (by exact RS.out) (by exact RT.out) (by omega) (by rw [ent_in (n := la + lb) (by omega)]; exact x3) (fun j hj => by rw [ent_in (n := la + lb) (by omega)]; exact X4.out j hj)).mono ?_
    rintro e w8 ⟨rfl, hw8⟩
    have cS : w8.cell? ⟨wC.heap.size, y, none⟩ = some (.int .u64 (cat la fa fb (y))) := by rw [hw8]; exact RC.out (y) (by omega)
    have R8 : Hid (Rd w8 p2 lt ft) := by rw [hw8]; exact RT.out
    have B8 : Hid (Below w'.heap.size w' w8) := by rw [hw8]; exact below_drewN BB.out _
    clear hw8
    have g0 : (0 : Int) ≤ (y : Int) := by omega
    have g2 : (y : Int) < (la : Int) + (lb : Int) := by omega
    go_wp2
    go_quiet ((go_at_call 8; exact Calls.quiet_of_same (entryB_any _ _ _ _ _ _ (by exact R8.out))))
    go_wp2
    go_ret
    exact ⟨rfl, below_drewN B8.out _⟩
  · have X2 : Hid (∀ j, j < la + lb → cat la fa fb j ≤ ent lt ft j) := x2
    have X1 : Hid (∀ j, j < lb → fb j ≤ ent (lt - la) (shift la ft) j) := x1
    have X0 : Hid (∀ j, j < la → fa j ≤ ent lt ft j) := x0
    clear x2 x1 x0
    go_wp2_with fail
    refine (exc_no _ _ _ _ _ _ _ _ _ (by omega) RS.out RT.out X2.out).mono ?_
    rintro e w5 ⟨rfl, q5, rfl⟩
    go_wp2_with fail
    refine (exc_no _ _ _ _ _ _ _ _ _ (by omega) (by exact RA.out) (by exact RT.out) X0.out).mono ?_
    rintro e w6 ⟨rfl, q6, rfl⟩
    go_wp2_with fail
    refine (exc_no _ _ _ _ _ _ _ _ _ (by omega) (by exact RB.out) (by exact RR.out) X1.out).mono ?_
    rintro e w7 ⟨rfl, q7, rfl⟩
    go_wp2_with fail
    refine (bor_yes _ _ _ _ _ _ _ _ _ (by omega) (by omega) (by exact RS.out) (by exact RT.out) (bor_ge _ _ _ _ POS.out _ X2.out)).mono ?_
    rintro e w8 ⟨rfl, rfl⟩
    go_wp2
    go_ret
    exact ⟨rfl, below_drewN BB.out _⟩
end Go.Proofs.Qxb6628942a
