import Derived.Test.Qxb6628976aEach
namespace Go.Proofs.Qxb6628976a
open Go.ChangeShapes Go.WideShapes Go.ChangeAt Go.RowKit
set_option linter.unusedVariables false

/-! The plain law. -/
def ins {α : Type} (t : Nat) (x : α) (f : Nat → α) (i : Nat) : α := if i < t then f i else if i = t then x else f (i - 1)
theorem ins_lo {α : Type} {t : Nat} {x : α} {f : Nat → α} {i : Nat} (h : i < t) : ins t x f i = f i := by simp [ins, h]
theorem ins_at {α : Type} {t : Nat} {x : α} {f : Nat → α} : ins t x f t = x := by simp [ins]
theorem ins_hi {α : Type} {t : Nat} {x : α} {f : Nat → α} {i : Nat} (h : t ≤ i) : ins t x f (i + 1) = f i := by
  unfold ins; rw [if_neg (by omega), if_neg (by omega), Nat.add_sub_cancel]

theorem least (p : Nat → Bool) (n : Nat) : (∃ k, k < n ∧ p k = true ∧ ∀ j, j < k → p j = false) ∨ ∀ j, j < n → p j = false := by
  induction n with
  | zero => exact .inr fun j hj => by omega
  | succ n ih =>
    rcases ih with ⟨k, hk, h1, h2⟩ | h
    · exact .inl ⟨k, by omega, h1, h2⟩
    · cases hp : p n
      · refine .inr fun j hj => ?_
        by_cases e : j = n
        · subst e; exact hp
        · exact h j (by omega)
      · exact .inl ⟨n, by omega, hp, h⟩

/-- The ways: the storage is found ahead of the place; it is x's and not ahead of it; it is not x's, and behind it; nowhere. -/
theorem ways (s : Nat → ByteArray) (n t : Nat) (ht : t ≤ n) (x st : ByteArray) :
    (∃ k, k < t ∧ same (s k) st = true ∧ ∀ j, j < k → same (s j) st = false) ∨
    (same x st = true ∧ ∀ j, j < t → same (s j) st = false) ∨
    (same x st = false ∧ (∀ j, j < t → same (s j) st = false) ∧ ((∃ k, k < n ∧ t ≤ k ∧ same (s k) st = true ∧ ∀ j, j < k → same (s j) st = false) ∨ ∀ j, j < n → same (s j) st = false)) := by
  rcases least (fun j => same (s j) st) t with ⟨k, h⟩ | h
  · exact .inl ⟨k, h⟩
  · cases e : same x st
    · refine .inr (.inr ⟨rfl, h, ?_⟩)
      rcases least (fun j => same (s j) st) n with ⟨k, hk, h1, h2⟩ | h'
      · refine .inl ⟨k, hk, ?_, h1, h2⟩
        refine Nat.le_of_not_lt fun hkt => ?_
        have e1 : same (s k) st = true := h1
        have e2 : same (s k) st = false := h k hkt
        rw [e1] at e2; cases e2
      · exact .inr h'
    · exact .inr (.inl ⟨rfl, h⟩)

/-- What a look-up answers, whichever it is. -/
theorem rep_some (br : Nat) (a : Option Addr) (n c : Nat) (s : Nat → ByteArray) (g : Nat → Int) (st : ByteArray) (w : World) (hn : n ≤ 1000000) (hr : Rw w a n s g) (hp : w.cell? ⟨br, 4, none⟩ = some (.slice a n c)) :
    Calls Try.prog 8 #[.pointer (some ⟨br, 0, none⟩), .string st] w fun e w' => ∃ (p : ByteArray) (z : Int) (ok : Bool), e = .returned (.tuple #[.agg #[.string p, .int .i64 z], .bool ok]) ∧ Below w.heap.size w w' := by
  rcases least (fun j => same (s j) st) n with ⟨k, hk, h1, h2⟩ | h
  · exact (rep_yes br a n c s g st k w hn hr hp hk h1 h2).mono fun e w' ⟨he, hw⟩ => ⟨_, _, _, he, hw⟩
  · exact (rep_no br a n c s g st w hn hr hp h).mono fun e w' ⟨he, hw⟩ => ⟨_, _, _, he, hw⟩

theorem rep_yes' (br : Nat) (a : Option Addr) (n c : Nat) (s : Nat → ByteArray) (g : Nat → Int) (st : ByteArray) (k : Nat) (p : ByteArray) (z : Int) (w : World) (hn : n ≤ 1000000) (hr : Rw w a n s g) (hp : w.cell? ⟨br, 4, none⟩ = some (.slice a n c))
    (hk : k < n) (ep : s k = p) (ez : g k = z) (h1 : same p st = true) (h2 : ∀ j, j < k → same (s j) st = false) :
    Calls Try.prog 8 #[.pointer (some ⟨br, 0, none⟩), .string st] w fun e w' => e = .returned (.tuple #[.agg #[.string p, .int .i64 z], .bool true]) ∧ Below w.heap.size w w' := by
  subst ep ez
  exact rep_yes br a n c s g st k w hn hr hp hk h1 h2

/-- x lies boxed in block 'bx'; the repository 'before' in 'br'. -/
def Pre (w0 : World) (bx : Nat) (xs : ByteArray) (xg : Int) (br : Nat) (a a' : Option Addr) (n : Nat) (s : Nat → ByteArray) (f : Nat → Int) (w : World) : Prop :=
  St w0 br a a' n s f w ∧ w.cell? ⟨bx, 0, none⟩ = some (.string xs) ∧ w.cell? ⟨bx, 1, none⟩ = some (.int .i64 xg)

theorem Pre.later {w0 : World} {bx : Nat} {xs : ByteArray} {xg : Int} {br : Nat} {a a' : Option Addr} {n : Nat} {s : Nat → ByteArray} {f : Nat → Int} {w w' : World}
    (h : Pre w0 bx xs xg br a a' n s f w) (hb : Below w.heap.size w w') : Pre w0 bx xs xg br a a' n s f w' :=
  ⟨h.1.later hb, cell_later hb h.2.1, cell_later hb h.2.2⟩

theorem Pre.row {w0 : World} {bx : Nat} {xs : ByteArray} {xg : Int} {br : Nat} {a a' : Option Addr} {n : Nat} {s : Nat → ByteArray} {f : Nat → Int} {w : World}
    (h : Pre w0 bx xs xg br a a' n s f w) {i : Nat} (hi : i < n) : ∃ b off, a = some ⟨b, off, none⟩ ∧ b < w.heap.size ∧ w.cell? ⟨b, off + i * 2, none⟩ = some (.string (s i)) ∧ w.cell? ⟨b, off + i * 2 + 1, none⟩ = some (.int .i64 (f i)) := by
  rcases h.1.2.2.2 with h0 | ⟨b, off, ha, hc⟩
  · omega
  · exact ⟨b, off, ha, World.block_lt_of_cell? w _ (hc i hi).1, (hc i hi).1, (hc i hi).2⟩

theorem Fill.undrew {w wr : World} {g N : Nat} {s : Nat → ByteArray} {f : Nat → Int} {t : Nat} (h : Fill w wr.drew g N s f t) : Fill w wr g N s f t := by
  obtain ⟨xs, a, b, c, d⟩ := h
  exact ⟨xs, a, b, ⟨c.os, c.tape, c.output, c.size, c.block⟩, d⟩

/-- Both repositories lie there: 'after' in block 'ba', its replicas in block 'g'. -/
def Both (w0 : World) (bx : Nat) (xs : ByteArray) (xg : Int) (br ba g : Nat) (a a' : Option Addr) (n t : Nat) (s : Nat → ByteArray) (f : Nat → Int) (w : World) : Prop :=
  Pre w0 bx xs xg br a a' n s f w ∧ w.cell? ⟨ba, 4, none⟩ = some (.slice (some ⟨g, 0, none⟩) (n + 1) (n + 1)) ∧ Rw w (some ⟨g, 0, none⟩) (n + 1) (ins t xs s) (ins t xg f)

theorem Both.later {w0 : World} {bx : Nat} {xs : ByteArray} {xg : Int} {br ba g : Nat} {a a' : Option Addr} {n t : Nat} {s : Nat → ByteArray} {f : Nat → Int} {w w' : World}
    (h : Both w0 bx xs xg br ba g a a' n t s f w) (hb : Below w.heap.size w w') : Both w0 bx xs xg br ba g a a' n t s f w' :=
  ⟨h.1.later hb, cell_later hb h.2.1, h.2.2.later hb⟩

set_option maxHeartbeats 1000000 in
set_option maxRecDepth 100000 in
theorem ins_any (i0 at5 : Int) (s1 s2 s3 st xs : ByteArray) (xg : Int) (a : Option Addr) (n c : Nat) (s : Nat → ByteArray) (f : Nat → Int) (w : World) (hr : Rw w a n s f) (h0 : a = none → n = 0 ∧ c = 0) (hm : n ≤ maxLen) :
    Calls Try.prog 3 #[.int .i64 i0, .string s1, .string s2, .string s3, .slice a n c, .int .i64 at5, .agg #[.string xs, .int .i64 xg], .string st] w fun e w' => e = .returned (.bool true) ∧ Below w.heap.size w w' := by
  have Hr : Hid (Rw w a n s f) := hr
  have H0 : Hid (a = none → n = 0 ∧ c = 0) := h0
  clear hr h0
  have HB0 : ∀ o, Hid (Below w.heap.size w (w.alloc o)) := fun o => (Below.refl _ _).alloc (Nat.le_refl _) o
  go_enter Try.func3, Try.ntmps3
  go_wp2_with fail
  refine (bytes5_any _ _ _ _ _ _ _ _ _ _ _ s f _ (Hr.out.later (HB0 _).out)).mono ?_
  rintro e w1 ⟨⟨v, rfl, -⟩, hb1⟩
  have R1 : Hid (Rw w1 a n s f) := (Hr.out.later (HB0 _).out).later hb1
  have B1 : Hid (Below w.heap.size w w1) := (HB0 _).out.trans (hb1.mono (HB0 _).out.size)
  have x0 : w1.cell? ⟨w.heap.size, 0, none⟩ = some (.string xs) := by rw [hb1.cell (by simp)]; simp
  have x1 : w1.cell? ⟨w.heap.size, 1, none⟩ = some (.int .i64 xg) := by rw [hb1.cell (by simp)]; simp
  clear hb1 Hr HB0
  cases v
  · go_wp2
    go_ret
    exact ⟨rfl, B1.out⟩
  go_wp2_with fail
  refine (tooBig_any _ _ _ _ _ _ _ _ s f _ R1.out).mono ?_
  rintro e w2 ⟨⟨v, rfl, hv⟩, rfl⟩
  cases v
  case true =>
    go_wp2
    go_ret
    exact ⟨rfl, B1.out⟩
  have hn : n ≤ 65536 := hv rfl
  clear hv hm
  by_cases hA : at5 < 0
  · go_wp2
    go_ret
    exact ⟨rfl, B1.out⟩
  by_cases hA2 : (n : Int) < at5
  · go_wp2
    go_ret
    exact ⟨rfl, B1.out⟩
  obtain ⟨t, rfl⟩ := Int.eq_ofNat_of_zero_le (show 0 ≤ at5 by omega)
  have htn : t ≤ n := by omega
  go_wp2_with fail
  refine (list_any _ _ _ s f _ (by omega) R1.out H0.out).mono ?_
  rintro e w3 ⟨a', rfl, hr3, hb3⟩
  have P3 : Hid (Pre w w.heap.size xs xg w3.heap.size a a' n s f (w3.alloc (.cells #[.int .i64 i0, .string s1, .string s2, .string s3, .slice a' n n] 31))) :=
    ⟨St.start _ _ _ _ (B1.out.trans (hb3.mono B1.out.size)) hr3 (R1.out.later hb3), cell_later ((Below.refl _ _).alloc (Nat.le_refl _) _) (cell_later hb3 x0), cell_later ((Below.refl _ _).alloc (Nat.le_refl _) _) (cell_later hb3 x1)⟩
  clear hr3 hb3 R1 B1 H0 x0 x1
  obtain ⟨i0', hi, hz0, hz1, hz2⟩ := info_parts Try.info32
  go_wp2_with (at_make; refine wpList_make_full _ rfl (.tmp 64) (.tmp 64) 28 rfl (w3.heap.size + 1) 32 i0' (.agg #[.string ⟨#[]⟩, .int .i64 0]) 2 Try.underlying28 hi hz0 hz1 _ _ _ _ (n + 1) rfl rfl (by omega) (by omega) (by rw [hz2]; omega) (by unfold maxLen; omega) (by simp) ?_; intro w4 hown hgrow)
  generalize hwM : w3.alloc (Obj.cells #[.int .i64 i0, .string s1, .string s2, .string s3, .slice a' n n] 31) = wM at *
  have hsz : wM.heap.size = w3.heap.size + 1 := by rw [← hwM]; simp
  have SZ : Hid (wM.heap.size = w3.heap.size + 1) := hsz
  have HF : Hid (Fill wM w4 (w3.heap.size + 1) (n + 1) (ins t xs s) (ins t xg f) 0) :=
    ⟨_, by rw [hsz] at hown ⊢; exact hown, fun j hj => by omega, (Below.refl _ _).grown hgrow (Nat.le_refl _) (fun k hk => by cases hk), by omega⟩
  clear hown hgrow hi hz0 hz1 hz2 hwM hsz
  go_loopw [19] (fun i wr => ∃ k : Nat, k ≤ t ∧ i = .int .i64 k ∧ Fill wM wr (w3.heap.size + 1) (n + 1) (ins t xs s) (ins t xg f) k) (fun i _ => t - (intOf i).toNat)
  case atStart => exact ⟨0, Nat.zero_le _, rfl, HF.out⟩
  case round =>
    clear HF
    obtain ⟨k, hk, rfl, hf⟩ := hrel
    have hb : Below wM.heap.size wM wr := hf.choose_spec.2.2.1
    have HF : Hid (Fill wM wr (w3.heap.size + 1) (n + 1) (ins t xs s) (ins t xg f) k) := hf
    have PW : Hid (Pre w w.heap.size xs xg w3.heap.size a a' n s f wr) := P3.out.later hb
    by_cases hkt : k < t
    · obtain ⟨⟨v0, hv0⟩, hf0⟩ := hf.cell (k * 2) (by omega)
      obtain ⟨⟨v1, hv1⟩, hf1⟩ := hf.cell (k * 2 + 1) (by omega)
      obtain ⟨b, off, rfl, hbb, c0, c1⟩ := P3.out.row (i := k) (by omega)
      have d0 := cell_later hb c0
      have d1 := cell_later hb c1
      have hbn : b ≠ w3.heap.size + 1 := by have := SZ.out; omega
      have hnx := hf.next (by omega) (s k) (f k) (ins_lo hkt).symm (ins_lo hkt).symm
      have HN : Hid (Fill wM ((wr.setCell ⟨w3.heap.size + 1, k * 2, none⟩ (.string (s k))).setCell ⟨w3.heap.size + 1, k * 2 + 1, none⟩ (.int .i64 (f k))).drew (w3.heap.size + 1) (n + 1) (ins t xs s) (ins t xg f) (k + 1)) := hnx
      have hkt' : (k : Int) < (t : Int) := by omega
      have hkn' : (k : Int) < (n : Int) := by omega
      clear hnx hf hb c0 c1
      go_wp2
      go_region
      go_wp2
      go_roundw
      case rel => exact ⟨k + 1, by omega, by go_num, HN.out⟩
      case measure => simp [intOf]; omega
    · obtain rfl : k = t := by omega
      obtain ⟨⟨v0, hv0⟩, hf0⟩ := hf.cell (k * 2) (by omega)
      obtain ⟨⟨v1, hv1⟩, hf1⟩ := hf.cell (k * 2 + 1) (by omega)
      have x0 := PW.out.2.1
      have x1 := PW.out.2.2
      have hxb : w.heap.size < wM.heap.size := World.block_lt_of_cell? wM _ P3.out.2.1
      have hxn : w.heap.size ≠ w3.heap.size + 1 := by have := SZ.out; omega
      have hnx := hf.next (by omega) xs xg ins_at.symm ins_at.symm
      have HN : Hid (Fill wM ((wr.setCell ⟨w3.heap.size + 1, k * 2, none⟩ (.string xs)).setCell ⟨w3.heap.size + 1, k * 2 + 1, none⟩ (.int .i64 xg)) (w3.heap.size + 1) (n + 1) (ins k xs s) (ins k xg f) (k + 1)) := hnx.undrew
      have hkn' : (k : Int) < (n : Int) + 1 := by omega
      clear hnx hf hb HF PW
      go_wp2
      go_loopw [20] (fun i wr => ∃ j : Nat, k ≤ j ∧ j ≤ n ∧ i = .int .i64 j ∧ Fill wM wr (w3.heap.size + 1) (n + 1) (ins k xs s) (ins k xg f) (j + 1)) (fun i _ => n - (intOf i).toNat)
      case atStart => exact ⟨k, Nat.le_refl _, htn, rfl, HN.out⟩
      case round =>
        clear HN x0 x1 hv0 hv1 hf0 hf1
        obtain ⟨j, hkj, hjn, rfl, hf⟩ := hrel
        have hb : Below wM.heap.size wM wr := hf.choose_spec.2.2.1
        have HF : Hid (Fill wM wr (w3.heap.size + 1) (n + 1) (ins k xs s) (ins k xg f) (j + 1)) := hf
        have PW : Hid (Pre w w.heap.size xs xg w3.heap.size a a' n s f wr) := P3.out.later hb
        by_cases hjt : j < n
        · obtain ⟨⟨v0, hv0⟩, hf0⟩ := hf.cell ((j + 1) * 2) (by omega)
          obtain ⟨⟨v1, hv1⟩, hf1⟩ := hf.cell ((j + 1) * 2 + 1) (by omega)
          obtain ⟨b, off, rfl, hbb, c0, c1⟩ := P3.out.row hjt
          have d0 := cell_later hb c0
          have d1 := cell_later hb c1
          have hbn : b ≠ w3.heap.size + 1 := by have := SZ.out; omega
          have hnx := hf.next (by omega) (s j) (f j) (ins_hi hkj).symm (ins_hi hkj).symm
          have HN : Hid (Fill wM ((wr.setCell ⟨w3.heap.size + 1, (j + 1) * 2, none⟩ (.string (s j))).setCell ⟨w3.heap.size + 1, (j + 1) * 2 + 1, none⟩ (.int .i64 (f j))).drew (w3.heap.size + 1) (n + 1) (ins k xs s) (ins k xg f) (j + 1 + 1)) := hnx
          have hkt' : (j : Int) < (n : Int) := by omega
          have hkt2' : (j : Int) + 1 < (n : Int) + 1 := by omega
          clear hnx hf hb c0 c1
          go_wp2
          go_region
          go_wp2
          go_roundw
          case rel => exact ⟨j + 1, by omega, by omega, by go_num, HN.out⟩
          case measure => simp [intOf]; omega
        · have hB0 : Below wr.heap.size wr (wr.alloc (.cells #[.int .i64 i0, .string s1, .string s2, .string s3, .slice (some ⟨w3.heap.size + 1, 0, none⟩) (n + 1) (n + 1)] 31)) := (Below.refl _ _).alloc (Nat.le_refl _) _
          have BO : Hid (Both w w.heap.size xs xg w3.heap.size wr.heap.size (w3.heap.size + 1) a a' n k s f (wr.alloc (.cells #[.int .i64 i0, .string s1, .string s2, .string s3, .slice (some ⟨w3.heap.size + 1, 0, none⟩) (n + 1) (n + 1)] 31))) :=
            ⟨PW.out.later hB0, by simp, (hf.rw (by omega)).later hB0⟩
          clear hf hb HF PW hB0 P3 SZ hxb hxn
          go_wp2_with fail
          generalize wr.alloc (Obj.cells #[.int .i64 i0, .string s1, .string s2, .string s3, .slice (some ⟨w3.heap.size + 1, 0, none⟩) (n + 1) (n + 1)] 31) = wT at *
          rcases ways s n k htn xs st with ⟨m, hm, h1, h2⟩ | ⟨hx, h1⟩ | ⟨hx, h1, ⟨m, hmn, hkm, h2, h3⟩ | h2⟩
          · have H1 : Hid (same (s m) st = true) := h1
            have H2 : Hid (∀ j, j < m → same (s j) st = false) := h2
            have H3 : Hid (∀ j, j < m → same (ins k xs s j) st = false) := fun j hj => by rw [ins_lo (by omega)]; exact h2 j hj
            clear h1 h2
            refine (rep_yes' _ _ _ _ s f _ m (s m) (f m) _ (by omega) BO.out.1.1.2.2.1 BO.out.1.1.2.1 (by omega) rfl rfl H1.out H2.out).mono ?_
            rintro e w5 ⟨rfl, hb5⟩
            have BO5 : Hid (Both w w.heap.size xs xg w3.heap.size wr.heap.size (w3.heap.size + 1) a a' n k s f (w5.alloc (.cells #[.string (s m), .int .i64 (f m)] 32))) := (BO.out.later hb5).later ((Below.refl _ _).alloc (Nat.le_refl _) _)
            have b0 : (w5.alloc (.cells #[.string (s m), .int .i64 (f m)] 32)).cell? ⟨w5.heap.size, 0, none⟩ = some (.string (s m)) := by simp
            have b1 : (w5.alloc (.cells #[.string (s m), .int .i64 (f m)] 32)).cell? ⟨w5.heap.size, 1, none⟩ = some (.int .i64 (f m)) := by simp
            have C0 : Hid ((w5.alloc (.cells #[.string (s m), .int .i64 (f m)] 32)).cell? ⟨w5.heap.size, 0, none⟩ = some (.string (s m))) := b0
            have C1 : Hid ((w5.alloc (.cells #[.string (s m), .int .i64 (f m)] 32)).cell? ⟨w5.heap.size, 1, none⟩ = some (.int .i64 (f m))) := b1
            clear b0 b1 hb5 BO
            go_wp2_with fail
            refine (rep_yes' _ _ _ _ (ins k xs s) (ins k xg f) _ m (s m) (f m) _ (by omega) BO5.out.2.2 BO5.out.2.1 (by omega) (ins_lo hm) (ins_lo hm) H1.out H3.out).mono ?_
            rintro e w7 ⟨rfl, hb7⟩
            have BO7 : Hid (Both w w.heap.size xs xg w3.heap.size wr.heap.size (w3.heap.size + 1) a a' n k s f w7) := BO5.out.later hb7
            have y0 := cell_later hb7 C0.out
            have y1 := cell_later hb7 C1.out
            have x0 := BO7.out.1.2.1
            have x1 := BO7.out.1.2.2
            have l1 : w5.heap.size < w7.heap.size := World.block_lt_of_cell? w7 _ y0
            have l2 : w.heap.size < w7.heap.size := World.block_lt_of_cell? w7 _ x0
            have m1 : w5.heap.size ≠ w7.heap.size := Nat.ne_of_lt l1
            have m2 : w.heap.size ≠ w7.heap.size := Nat.ne_of_lt l2
            clear hb7 BO5 C0 C1
            go_wp2
            go_loop [26, 27] (fun y i => ∃ q : Nat, q ≤ k ∧ i = .int .i64 q ∧ y = .bool (decide (m < q))) (fun _ i => k - (intOf i).toNat)
            case atStart => exact ⟨0, Nat.zero_le _, rfl, by simp⟩
            case round =>
              obtain ⟨q, hqk, rfl, rfl⟩ := hrel
              by_cases hlt : q < k
              · obtain ⟨b, off, rfl, hbb, c0, c1⟩ := BO7.out.1.row (i := q) (by omega)
                have m3 : w7.heap.size ≠ b := by omega
                have hlt' : (q : Int) < (k : Int) := by omega
                have hlt2' : (q : Int) < (n : Int) := by omega
                by_cases hqm : q < m
                · have hq : ((s q).toList == st.toList) = false := H2.out q hqm
                  go_wp2
                  go_round
                  case rel => exact ⟨q + 1, by omega, by go_num, by rw [decide_eq_false (by omega), decide_eq_false (by omega)]⟩
                  case measure => simp [intOf]; omega
                · by_cases hqe : q = m
                  · subst hqe
                    have hq : ((s q).toList == st.toList) = true := H1.out
                    go_wp2
                    go_round
                    case rel => exact ⟨q + 1, by omega, by go_num, by rw [decide_eq_true (by omega)]⟩
                    case measure => simp [intOf]; omega
                  · go_wp2
                    all_goals go_round
                    case rel => exact ⟨q + 1, by omega, by go_num, by rw [decide_eq_true (by omega)]⟩
                    case measure => simp [intOf]; omega
                    case rel => exact ⟨q + 1, by omega, by go_num, by rw [decide_eq_true (by omega), decide_eq_true (by omega)]⟩
                    case measure => simp [intOf]; omega
              · have hqe : q = k := by omega
                have hlt3 : (k : Int) ≤ (q : Int) := by omega
                rw [decide_eq_true (show m < q by omega)]
                go_wp2
                go_ret
                exact ⟨rfl, (BO7.out.later ((Below.refl _ _).alloc (Nat.le_refl _) _)).1.1.1⟩
          · have H1 : Hid (∀ j, j < k → same (s j) st = false) := h1
            have H3 : Hid (∀ j, j < k → same (ins k xs s j) st = false) := fun j hj => by rw [ins_lo hj]; exact h1 j hj
            have HX : Hid (same xs st = true) := hx
            clear h1 hx
            refine (rep_some _ _ _ _ s f _ _ (by omega) BO.out.1.1.2.2.1 BO.out.1.1.2.1).mono ?_
            rintro e w5 ⟨pb, zb, okb, rfl, hb5⟩
            have BO5 : Hid (Both w w.heap.size xs xg w3.heap.size wr.heap.size (w3.heap.size + 1) a a' n k s f (w5.alloc (.cells #[.string pb, .int .i64 zb] 32))) := (BO.out.later hb5).later ((Below.refl _ _).alloc (Nat.le_refl _) _)
            have b0 : (w5.alloc (.cells #[.string pb, .int .i64 zb] 32)).cell? ⟨w5.heap.size, 0, none⟩ = some (.string pb) := by simp
            have b1 : (w5.alloc (.cells #[.string pb, .int .i64 zb] 32)).cell? ⟨w5.heap.size, 1, none⟩ = some (.int .i64 zb) := by simp
            have C0 : Hid ((w5.alloc (.cells #[.string pb, .int .i64 zb] 32)).cell? ⟨w5.heap.size, 0, none⟩ = some (.string pb)) := b0
            have C1 : Hid ((w5.alloc (.cells #[.string pb, .int .i64 zb] 32)).cell? ⟨w5.heap.size, 1, none⟩ = some (.int .i64 zb)) := b1
            clear b0 b1 hb5 BO
            go_wp2_with fail
            refine (rep_yes' _ _ _ _ (ins k xs s) (ins k xg f) _ k xs xg _ (by omega) BO5.out.2.2 BO5.out.2.1 (by omega) ins_at ins_at HX.out H3.out).mono ?_
            rintro e w7 ⟨rfl, hb7⟩
            have BO7 : Hid (Both w w.heap.size xs xg w3.heap.size wr.heap.size (w3.heap.size + 1) a a' n k s f w7) := BO5.out.later hb7
            have y0 := cell_later hb7 C0.out
            have y1 := cell_later hb7 C1.out
            have x0 := BO7.out.1.2.1
            have x1 := BO7.out.1.2.2
            have l1 : w5.heap.size < w7.heap.size := World.block_lt_of_cell? w7 _ y0
            have l2 : w.heap.size < w7.heap.size := World.block_lt_of_cell? w7 _ x0
            have m1 : w5.heap.size ≠ w7.heap.size := Nat.ne_of_lt l1
            have m2 : w.heap.size ≠ w7.heap.size := Nat.ne_of_lt l2
            clear hb7 BO5 C0 C1
            go_wp2
            go_loop [26, 27] (fun y i => ∃ q : Nat, q ≤ k ∧ i = .int .i64 q ∧ y = .bool false) (fun _ i => k - (intOf i).toNat)
            case atStart => exact ⟨0, Nat.zero_le _, rfl, rfl⟩
            case round =>
              obtain ⟨q, hqk, rfl, rfl⟩ := hrel
              by_cases hlt : q < k
              · obtain ⟨b, off, rfl, hbb, c0, c1⟩ := BO7.out.1.row (i := q) (by omega)
                have m3 : w7.heap.size ≠ b := by omega
                have hlt' : (q : Int) < (k : Int) := by omega
                have hlt2' : (q : Int) < (n : Int) := by omega
                have hq : ((s q).toList == st.toList) = false := H1.out q hlt
                go_wp2
                go_round
                case rel => exact ⟨q + 1, by omega, by go_num, rfl⟩
                case measure => simp [intOf]; omega
              · have hqe : q = k := by omega
                have hlt3 : (k : Int) ≤ (q : Int) := by omega
                have hq : (xs.toList == st.toList) = true := HX.out
                go_wp2
                go_ret
                exact ⟨rfl, (BO7.out.later ((Below.refl _ _).alloc (Nat.le_refl _) _)).1.1.1⟩
          · have H1 : Hid (∀ j, j < k → same (s j) st = false) := h1
            have H2 : Hid (same (s m) st = true) := h2
            have H3 : Hid (∀ j, j < m → same (s j) st = false) := h3
            have HX : Hid (same xs st = false) := hx
            have H4 : Hid (∀ j, j < m + 1 → same (ins k xs s j) st = false) := fun j hj => by
              by_cases e1 : j < k
              · rw [ins_lo e1]; exact h1 j e1
              · by_cases e2 : j = k
                · subst e2; rw [ins_at]; exact hx
                · obtain ⟨i, rfl⟩ : ∃ i, j = i + 1 := ⟨j - 1, by omega⟩
                  rw [ins_hi (by omega)]; exact h3 i (by omega)
            clear h1 h2 h3 hx
            refine (rep_yes' _ _ _ _ s f _ m (s m) (f m) _ (by omega) BO.out.1.1.2.2.1 BO.out.1.1.2.1 hmn rfl rfl H2.out H3.out).mono ?_
            rintro e w5 ⟨rfl, hb5⟩
            have BO5 : Hid (Both w w.heap.size xs xg w3.heap.size wr.heap.size (w3.heap.size + 1) a a' n k s f (w5.alloc (.cells #[.string (s m), .int .i64 (f m)] 32))) := (BO.out.later hb5).later ((Below.refl _ _).alloc (Nat.le_refl _) _)
            have b0 : (w5.alloc (.cells #[.string (s m), .int .i64 (f m)] 32)).cell? ⟨w5.heap.size, 0, none⟩ = some (.string (s m)) := by simp
            have b1 : (w5.alloc (.cells #[.string (s m), .int .i64 (f m)] 32)).cell? ⟨w5.heap.size, 1, none⟩ = some (.int .i64 (f m)) := by simp
            have C0 : Hid ((w5.alloc (.cells #[.string (s m), .int .i64 (f m)] 32)).cell? ⟨w5.heap.size, 0, none⟩ = some (.string (s m))) := b0
            have C1 : Hid ((w5.alloc (.cells #[.string (s m), .int .i64 (f m)] 32)).cell? ⟨w5.heap.size, 1, none⟩ = some (.int .i64 (f m))) := b1
            clear b0 b1 hb5 BO
            go_wp2_with fail
            refine (rep_yes' _ _ _ _ (ins k xs s) (ins k xg f) _ (m + 1) (s m) (f m) _ (by omega) BO5.out.2.2 BO5.out.2.1 (by omega) (ins_hi hkm) (ins_hi hkm) H2.out H4.out).mono ?_
            rintro e w7 ⟨rfl, hb7⟩
            have BO7 : Hid (Both w w.heap.size xs xg w3.heap.size wr.heap.size (w3.heap.size + 1) a a' n k s f w7) := BO5.out.later hb7
            have y0 := cell_later hb7 C0.out
            have y1 := cell_later hb7 C1.out
            have x0 := BO7.out.1.2.1
            have x1 := BO7.out.1.2.2
            have l1 : w5.heap.size < w7.heap.size := World.block_lt_of_cell? w7 _ y0
            have l2 : w.heap.size < w7.heap.size := World.block_lt_of_cell? w7 _ x0
            have m1 : w5.heap.size ≠ w7.heap.size := Nat.ne_of_lt l1
            have m2 : w.heap.size ≠ w7.heap.size := Nat.ne_of_lt l2
            clear hb7 BO5 C0 C1
            go_wp2
            go_loop [26, 27] (fun y i => ∃ q : Nat, q ≤ k ∧ i = .int .i64 q ∧ y = .bool false) (fun _ i => k - (intOf i).toNat)
            case atStart => exact ⟨0, Nat.zero_le _, rfl, rfl⟩
            case round =>
              obtain ⟨q, hqk, rfl, rfl⟩ := hrel
              by_cases hlt : q < k
              · obtain ⟨b, off, rfl, hbb, c0, c1⟩ := BO7.out.1.row (i := q) (by omega)
                have m3 : w7.heap.size ≠ b := by omega
                have hlt' : (q : Int) < (k : Int) := by omega
                have hlt2' : (q : Int) < (n : Int) := by omega
                have hq : ((s q).toList == st.toList) = false := H1.out q hlt
                go_wp2
                go_round
                case rel => exact ⟨q + 1, by omega, by go_num, rfl⟩
                case measure => simp [intOf]; omega
              · have hqe : q = k := by omega
                have hlt3 : (k : Int) ≤ (q : Int) := by omega
                have hq : (xs.toList == st.toList) = false := HX.out
                go_wp2
                go_ret
                exact ⟨rfl, (BO7.out.later ((Below.refl _ _).alloc (Nat.le_refl _) _)).1.1.1⟩
          · have H1 : Hid (∀ j, j < k → same (s j) st = false) := h1
            have H3 : Hid (∀ j, j < n → same (s j) st = false) := h2
            have HX : Hid (same xs st = false) := hx
            have H4 : Hid (∀ j, j < n + 1 → same (ins k xs s j) st = false) := fun j hj => by
              by_cases e1 : j < k
              · rw [ins_lo e1]; exact h1 j e1
              · by_cases e2 : j = k
                · subst e2; rw [ins_at]; exact hx
                · obtain ⟨i, rfl⟩ : ∃ i, j = i + 1 := ⟨j - 1, by omega⟩
                  rw [ins_hi (by omega)]; exact h2 i (by omega)
            clear h1 h2 hx
            refine (rep_no _ _ _ _ s f _ _ (by omega) BO.out.1.1.2.2.1 BO.out.1.1.2.1 H3.out).mono ?_
            rintro e w5 ⟨rfl, hb5⟩
            have BO5 : Hid (Both w w.heap.size xs xg w3.heap.size wr.heap.size (w3.heap.size + 1) a a' n k s f (w5.alloc (.cells #[.string ⟨#[]⟩, .int .i64 0] 32))) := (BO.out.later hb5).later ((Below.refl _ _).alloc (Nat.le_refl _) _)
            have b0 : (w5.alloc (.cells #[.string ⟨#[]⟩, .int .i64 0] 32)).cell? ⟨w5.heap.size, 0, none⟩ = some (.string ⟨#[]⟩) := by simp
            have b1 : (w5.alloc (.cells #[.string ⟨#[]⟩, .int .i64 0] 32)).cell? ⟨w5.heap.size, 1, none⟩ = some (.int .i64 0) := by simp
            have C0 : Hid ((w5.alloc (.cells #[.string ⟨#[]⟩, .int .i64 0] 32)).cell? ⟨w5.heap.size, 0, none⟩ = some (.string ⟨#[]⟩)) := b0
            have C1 : Hid ((w5.alloc (.cells #[.string ⟨#[]⟩, .int .i64 0] 32)).cell? ⟨w5.heap.size, 1, none⟩ = some (.int .i64 0)) := b1
            clear b0 b1 hb5 BO
            go_wp2_with fail
            refine (rep_no _ _ _ _ (ins k xs s) (ins k xg f) _ _ (by omega) BO5.out.2.2 BO5.out.2.1 H4.out).mono ?_
            rintro e w7 ⟨rfl, hb7⟩
            have BO7 : Hid (Both w w.heap.size xs xg w3.heap.size wr.heap.size (w3.heap.size + 1) a a' n k s f w7) := BO5.out.later hb7
            have y0 := cell_later hb7 C0.out
            have y1 := cell_later hb7 C1.out
            have x0 := BO7.out.1.2.1
            have x1 := BO7.out.1.2.2
            have l1 : w5.heap.size < w7.heap.size := World.block_lt_of_cell? w7 _ y0
            have l2 : w.heap.size < w7.heap.size := World.block_lt_of_cell? w7 _ x0
            have m1 : w5.heap.size ≠ w7.heap.size := Nat.ne_of_lt l1
            have m2 : w.heap.size ≠ w7.heap.size := Nat.ne_of_lt l2
            clear hb7 BO5 C0 C1
            go_wp2
            go_loop [26, 27] (fun y i => ∃ q : Nat, q ≤ k ∧ i = .int .i64 q ∧ y = .bool false) (fun _ i => k - (intOf i).toNat)
            case atStart => exact ⟨0, Nat.zero_le _, rfl, rfl⟩
            case round =>
              obtain ⟨q, hqk, rfl, rfl⟩ := hrel
              by_cases hlt : q < k
              · obtain ⟨b, off, rfl, hbb, c0, c1⟩ := BO7.out.1.row (i := q) (by omega)
                have m3 : w7.heap.size ≠ b := by omega
                have hlt' : (q : Int) < (k : Int) := by omega
                have hlt2' : (q : Int) < (n : Int) := by omega
                have hq : ((s q).toList == st.toList) = false := H1.out q hlt
                go_wp2
                go_round
                case rel => exact ⟨q + 1, by omega, by go_num, rfl⟩
                case measure => simp [intOf]; omega
              · have hqe : q = k := by omega
                have hlt3 : (k : Int) ≤ (q : Int) := by omega
                have hq : (xs.toList == st.toList) = false := HX.out
                go_wp2
                go_ret
                exact ⟨rfl, (BO7.out.later ((Below.refl _ _).alloc (Nat.le_refl _) _)).1.1.1⟩
end Go.Proofs.Qxb6628976a
