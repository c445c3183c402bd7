import Derived.Test.Qxb6628942aRows
import Derived.WalkKit
import Derived.ProofKit
import Derived.OpenShut
import Derived.Below
import Derived.WalkSpells
import Derived.WalkLawsBesides
import Derived.Outline
import Derived.Deep.QuietTactic
import Derived.BigQuiet
namespace Go.Proofs.Qxb6628942a
open Go.ChangeShapes Go.WideShapes Go.ChangeAt Go.RowKit
set_option linter.unusedVariables false

/-- The slice at 'a' of 'n' counts reads as 'f' in the world 'w'. -/
def Rd (w : World) (a : Option Addr) (n : Nat) (f : Nat → Int) : Prop :=
  n = 0 ∨ ∃ b off, a = some ⟨b, off, none⟩ ∧ ∀ i, i < n → w.cell? ⟨b, off + i, none⟩ = some (.int .u64 (f i))

def ent (n : Nat) (f : Nat → Int) (i : Nat) : Int := if i < n then f i else 0
theorem ent_in {n : Nat} {f : Nat → Int} {i : Nat} (h : i < n) : ent n f i = f i := by simp [ent, h]
theorem ent_out {n : Nat} {f : Nat → Int} {i : Nat} (h : ¬ i < n) : ent n f i = 0 := by simp [ent, h]

theorem entry_any (a : Option Addr) (n c : Nat) (f : Nat → Int) (i : Nat) (w : World) (hr : Rd w a n f) :
    Calls Try.prog 12 #[.slice a n c, .int .i64 i] w fun e w' => e = .returned (.int .u64 (ent n f i)) ∧ w' = w := by
  by_cases h : i < n
  · rcases hr with h0 | ⟨b, off, rfl, hc⟩
    · omega
    · have hci := hc i h
      clear hc
      rw [ent_in h]
      go_enter Try.func12, Try.ntmps12
      go_wp2
      go_ret
      exact ⟨rfl, rfl⟩
  · rw [ent_out h]
    go_enter Try.func12, Try.ntmps12
    go_wp2
    go_ret
    exact ⟨rfl, rfl⟩

theorem entryB_any (a : Option Addr) (n c : Nat) (f : Nat → Int) (i : Nat) (w : World) (hr : Rd w a n f) :
    Calls Try.prog 8 #[.slice a n c, .int .i64 i] w fun e w' => e = .returned (.int .u64 (ent n f i)) ∧ w' = w := by
  by_cases h : i < n
  · rcases hr with h0 | ⟨b, off, rfl, hc⟩
    · omega
    · have hci := hc i h
      clear hc
      rw [ent_in h]
      go_enter Try.func8, Try.ntmps8
      go_wp2
      go_ret
      exact ⟨rfl, rfl⟩
  · rw [ent_out h]
    go_enter Try.func8, Try.ntmps8
    go_wp2
    go_ret
    exact ⟨rfl, rfl⟩

theorem longer_any (a b : Option Addr) (n c m d : Nat) (w : World) :
    Calls Try.prog 13 #[.slice a n c, .slice b m d] w fun e w' => e = .returned (.int .i64 ((max n m : Nat) : Int)) ∧ w' = w := by
  by_cases h : m < n
  · rw [Nat.max_eq_left (by omega)]
    go_enter Try.func13, Try.ntmps13
    go_wp2
    go_ret
    exact ⟨rfl, rfl⟩
  · rw [Nat.max_eq_right (by omega)]
    go_enter Try.func13, Try.ntmps13
    go_wp2
    go_ret
    exact ⟨rfl, rfl⟩

theorem Rd.drewN {w : World} {a : Option Addr} {n : Nat} {f : Nat → Int} (h : Rd w a n f) (q : Nat) : Rd (w.drewN q) a n f := h

set_option maxHeartbeats 400000 in
theorem exc_yes (a b : Option Addr) (n c m d : Nat) (f g : Nat → Int) (k : Nat) (w : World) (hn : n ≤ 1000000) (hr : Rd w a n f) (hg : Rd w b m g)
    (hk : k < n) (hp : ent m g k < f k) (hb : ∀ j, j < k → f j ≤ ent m g j) :
    Calls Try.prog 6 #[.slice a n c, .slice b m d] w fun e w' => e = .returned (.tuple #[.int .i64 k, .bool true]) ∧ ∃ q, w' = w.drewN q := by
  rcases hr with h0 | ⟨ab, off, rfl, hc⟩
  · omega
  have Hc : Hid (∀ i, i < n → w.cell? ⟨ab, off + i, none⟩ = some (.int .u64 (f i))) := hc
  have Hb : Hid (∀ j, j < k → f j ≤ ent m g j) := hb
  have Hg : Hid (Rd w b m g) := hg
  clear hc hb hg
  go_enter Try.func6, Try.ntmps6
  go_wp2
  go_loopw [9] (fun i wr => ∃ t : Nat, t ≤ k ∧ i = .int .i64 t ∧ ∃ q, wr = w.drewN q) (fun i _ => n - (intOf i).toNat)
  case atStart => exact ⟨0, Nat.zero_le _, rfl, 0, rfl⟩
  case round =>
    obtain ⟨t, ht, rfl, q, hq⟩ := hrel
    have htn : t < n := by omega
    have hct : wr.cell? ⟨ab, off + t, none⟩ = some (.int .u64 (f t)) := by rw [hq]; exact Hc.out t htn
    have Hgr : Hid (Rd wr b m g) := by rw [hq]; exact Hg.out
    have HQ : Hid (wr = w.drewN q) := hq
    clear hq
    by_cases e : t = k
    · subst e
      go_wp2
      go_quiet ((go_at_call 12; exact Calls.quiet_of_same (entry_any _ _ _ _ _ _ Hgr.out)))
      go_wp2
      go_ret2
      exact ⟨rfl, _, by rw [HQ.out]; exact World.drewN_drewN _ _ _⟩
    · have hno := Hb.out t (by omega)
      go_wp2
      go_quiet ((go_at_call 12; exact Calls.quiet_of_same (entry_any _ _ _ _ _ _ Hgr.out)))
      go_wp2
      go_roundw
      case rel => exact ⟨t + 1, by omega, by go_num, _, by rw [HQ.out]; exact World.drewN_drewN _ _ _⟩
      case measure => simp [intOf]; omega

set_option maxHeartbeats 400000 in
theorem exc_no (a b : Option Addr) (n c m d : Nat) (f g : Nat → Int) (w : World) (hn : n ≤ 1000000) (hr : Rd w a n f) (hg : Rd w b m g)
    (hb : ∀ j, j < n → f j ≤ ent m g j) :
    Calls Try.prog 6 #[.slice a n c, .slice b m d] w fun e w' => e = .returned (.tuple #[.int .i64 0, .bool false]) ∧ ∃ q, w' = w.drewN q := by
  have Hc : Hid (Rd w a n f) := hr
  have Hb : Hid (∀ j, j < n → f j ≤ ent m g j) := hb
  have Hg : Hid (Rd w b m g) := hg
  clear hr hb hg
  go_enter Try.func6, Try.ntmps6
  go_wp2
  go_loopw [9] (fun i wr => ∃ t : Nat, t ≤ n ∧ i = .int .i64 t ∧ ∃ q, wr = w.drewN q) (fun i _ => n - (intOf i).toNat)
  case atStart => exact ⟨0, Nat.zero_le _, rfl, 0, rfl⟩
  case round =>
    obtain ⟨t, ht, rfl, q, hq⟩ := hrel
    have Hgr : Hid (Rd wr b m g) := by rw [hq]; exact Hg.out
    have HQ : Hid (wr = w.drewN q) := hq
    clear hq
    by_cases htn : t < n
    · rcases Hc.out with h0 | ⟨ab, off, rfl, hc⟩
      · omega
      have hct : wr.cell? ⟨ab, off + t, none⟩ = some (.int .u64 (f t)) := by rw [HQ.out]; exact hc t htn
      clear hc
      have hno := Hb.out t (by omega)
      go_wp2
      go_quiet ((go_at_call 12; exact Calls.quiet_of_same (entry_any _ _ _ _ _ _ Hgr.out)))
      go_wp2
      go_roundw
      case rel => exact ⟨t + 1, by omega, by go_num, _, by rw [HQ.out]; exact World.drewN_drewN _ _ _⟩
      case measure => simp [intOf]; omega
    · go_wp2
      go_ret2
      exact ⟨rfl, _, HQ.out⟩


set_option maxHeartbeats 400000 in
theorem bor_no (a b : Option Addr) (n c m d : Nat) (f g : Nat → Int) (k : Nat) (w : World) (hn : n ≤ 1000000) (hm : m ≤ 1000000) (hr : Rd w a n f) (hg : Rd w b m g)
    (hk : k < max n m) (hp : ent m g k < ent n f k) (hb : ∀ j, j < k → ent n f j ≤ ent m g j) :
    Calls Try.prog 7 #[.slice a n c, .slice b m d] w fun e w' => e = .returned (.bool false) ∧ w' = w := by
  have hN : max n m ≤ 1000000 := by omega
  have HN : Hid (max n m ≤ 1000000) := hN
  generalize hNe : max n m = N at *
  have HE : Hid (max n m = N) := hNe
  clear hNe
  have Hb : Hid (∀ j, j < k → ent n f j ≤ ent m g j) := hb
  have Hr : Hid (Rd w a n f) := hr
  have Hg : Hid (Rd w b m g) := hg
  clear hb hr hg
  go_enter Try.func7, Try.ntmps7
  go_wp2_with fail
  refine (longer_any _ _ _ _ _ _ _).mono ?_
  rintro e w' ⟨rfl, rfl⟩
  rw [HE.out]
  go_wp2
  go_loop [6] (fun i => ∃ t : Nat, t ≤ k ∧ i = .int .i64 t) (fun i => N - (intOf i).toNat)
  case atStart => exact ⟨0, Nat.zero_le _, rfl⟩
  case round =>
    obtain ⟨t, ht, rfl⟩ := hrel
    have htn : t < N := by omega
    by_cases e : t = k
    · subst e
      go_wp2_with fail
      refine (entryB_any _ _ _ _ _ _ Hr.out).mono ?_
      rintro e w' ⟨rfl, rfl⟩
      go_wp2_with fail
      refine (entryB_any _ _ _ _ _ _ Hg.out).mono ?_
      rintro e w' ⟨rfl, rfl⟩
      go_wp2
      go_ret
      exact ⟨rfl, rfl⟩
    · have hno := Hb.out t (by omega)
      go_wp2_with fail
      refine (entryB_any _ _ _ _ _ _ Hr.out).mono ?_
      rintro e w' ⟨rfl, rfl⟩
      go_wp2_with fail
      refine (entryB_any _ _ _ _ _ _ Hg.out).mono ?_
      rintro e w' ⟨rfl, rfl⟩
      go_wp2
      go_round
      case rel => exact ⟨t + 1, by omega, by go_num⟩
      case measure => simp [intOf]; omega

set_option maxHeartbeats 400000 in
theorem bor_yes (a b : Option Addr) (n c m d : Nat) (f g : Nat → Int) (w : World) (hn : n ≤ 1000000) (hm : m ≤ 1000000) (hr : Rd w a n f) (hg : Rd w b m g)
    (hb : ∀ j, j < max n m → ent n f j ≤ ent m g j) :
    Calls Try.prog 7 #[.slice a n c, .slice b m d] w fun e w' => e = .returned (.bool true) ∧ w' = w := by
  have hN : max n m ≤ 1000000 := by omega
  generalize hNe : max n m = N at *
  have HE : Hid (max n m = N) := hNe
  clear hNe
  have Hb : Hid (∀ j, j < N → ent n f j ≤ ent m g j) := hb
  have Hr : Hid (Rd w a n f) := hr
  have Hg : Hid (Rd w b m g) := hg
  clear hb hr hg
  go_enter Try.func7, Try.ntmps7
  go_wp2_with fail
  refine (longer_any _ _ _ _ _ _ _).mono ?_
  rintro e w' ⟨rfl, rfl⟩
  rw [HE.out]
  go_wp2
  go_loop [6] (fun i => ∃ t : Nat, t ≤ N ∧ i = .int .i64 t) (fun i => N - (intOf i).toNat)
  case atStart => exact ⟨0, Nat.zero_le _, rfl⟩
  case round =>
    obtain ⟨t, ht, rfl⟩ := hrel
    by_cases htn : t < N
    · have hno := Hb.out t (by omega)
      go_wp2_with fail
      refine (entryB_any _ _ _ _ _ _ Hr.out).mono ?_
      rintro e w' ⟨rfl, rfl⟩
      go_wp2_with fail
      refine (entryB_any _ _ _ _ _ _ Hg.out).mono ?_
      rintro e w' ⟨rfl, rfl⟩
      go_wp2
      go_round
      case rel => exact ⟨t + 1, by omega, by go_num⟩
      case measure => simp [intOf]; omega
    · go_wp2
      go_ret
      exact ⟨rfl, rfl⟩

set_option maxHeartbeats 400000 in
theorem same_no (a b : Option Addr) (n c m d : Nat) (f g : Nat → Int) (k : Nat) (w : World) (hn : n ≤ 1000000) (hm : m ≤ 1000000) (hr : Rd w a n f) (hg : Rd w b m g)
    (hk : k < max n m) (hp : ent n f k ≠ ent m g k) (hb : ∀ j, j < k → ent n f j = ent m g j) :
    Calls Try.prog 11 #[.slice a n c, .slice b m d] w fun e w' => e = .returned (.bool false) ∧ w' = w := by
  have hN : max n m ≤ 1000000 := by omega
  have HN : Hid (max n m ≤ 1000000) := hN
  generalize hNe : max n m = N at *
  have HE : Hid (max n m = N) := hNe
  clear hNe
  have Hb : Hid (∀ j, j < k → ent n f j = ent m g j) := hb
  have Hr : Hid (Rd w a n f) := hr
  have Hg : Hid (Rd w b m g) := hg
  clear hb hr hg
  go_enter Try.func11, Try.ntmps11
  go_wp2_with fail
  refine (longer_any _ _ _ _ _ _ _).mono ?_
  rintro e w' ⟨rfl, rfl⟩
  rw [HE.out]
  go_wp2
  go_loop [6] (fun i => ∃ t : Nat, t ≤ k ∧ i = .int .i64 t) (fun i => N - (intOf i).toNat)
  case atStart => exact ⟨0, Nat.zero_le _, rfl⟩
  case round =>
    obtain ⟨t, ht, rfl⟩ := hrel
    have htn : t < N := by omega
    by_cases e : t = k
    · subst e
      go_wp2_with fail
      refine (entryB_any _ _ _ _ _ _ Hr.out).mono ?_
      rintro e w' ⟨rfl, rfl⟩
      go_wp2_with fail
      refine (entryB_any _ _ _ _ _ _ Hg.out).mono ?_
      rintro e w' ⟨rfl, rfl⟩
      go_wp2
      go_ret
      exact ⟨rfl, rfl⟩
    · have hno : ¬ (ent n f t ≠ ent m g t) := fun h => h (Hb.out t (by omega))
      go_wp2_with fail
      refine (entryB_any _ _ _ _ _ _ Hr.out).mono ?_
      rintro e w' ⟨rfl, rfl⟩
      go_wp2_with fail
      refine (entryB_any _ _ _ _ _ _ Hg.out).mono ?_
      rintro e w' ⟨rfl, rfl⟩
      go_wp2
      go_round
      case rel => exact ⟨t + 1, by omega, by go_num⟩
      case measure => simp [intOf]; omega

set_option maxHeartbeats 400000 in
theorem same_yes (a b : Option Addr) (n c m d : Nat) (f g : Nat → Int) (w : World) (hn : n ≤ 1000000) (hm : m ≤ 1000000) (hr : Rd w a n f) (hg : Rd w b m g)
    (hb : ∀ j, j < max n m → ent n f j = ent m g j) :
    Calls Try.prog 11 #[.slice a n c, .slice b m d] w fun e w' => e = .returned (.bool true) ∧ w' = w := by
  have hN : max n m ≤ 1000000 := by omega
  generalize hNe : max n m = N at *
  have HE : Hid (max n m = N) := hNe
  clear hNe
  have Hb : Hid (∀ j, j < N → ent n f j = ent m g j) := hb
  have Hr : Hid (Rd w a n f) := hr
  have Hg : Hid (Rd w b m g) := hg
  clear hb hr hg
  go_enter Try.func11, Try.ntmps11
  go_wp2_with fail
  refine (longer_any _ _ _ _ _ _ _).mono ?_
  rintro e w' ⟨rfl, rfl⟩
  rw [HE.out]
  go_wp2
  go_loop [6] (fun i => ∃ t : Nat, t ≤ N ∧ i = .int .i64 t) (fun i => N - (intOf i).toNat)
  case atStart => exact ⟨0, Nat.zero_le _, rfl⟩
  case round =>
    obtain ⟨t, ht, rfl⟩ := hrel
    by_cases htn : t < N
    · have hno : ¬ (ent n f t ≠ ent m g t) := fun h => h (Hb.out t (by omega))
      go_wp2_with fail
      refine (entryB_any _ _ _ _ _ _ Hr.out).mono ?_
      rintro e w' ⟨rfl, rfl⟩
      go_wp2_with fail
      refine (entryB_any _ _ _ _ _ _ Hg.out).mono ?_
      rintro e w' ⟨rfl, rfl⟩
      go_wp2
      go_round
      case rel => exact ⟨t + 1, by omega, by go_num⟩
      case measure => simp [intOf]; omega
    · go_wp2
      go_ret
      exact ⟨rfl, rfl⟩

theorem bytes3_yes (a b t : Option Addr) (n c m d l k : Nat) (w : World) (h1 : n ≤ 32768) (h2 : m ≤ 32768) (h3 : l ≤ 32768) :
    Calls Try.prog 5 #[.slice a n c, .slice b m d, .slice t l k] w fun e w' => e = .returned (.bool true) ∧ w' = w := by
  go_enter Try.func5, Try.ntmps5
  go_wp2
  go_ret
  exact ⟨rfl, rfl⟩

theorem bytes2_yes (a b : Option Addr) (n c m d : Nat) (w : World) (h1 : n ≤ 65536) (h2 : m ≤ 65536) :
    Calls Try.prog 9 #[.slice a n c, .slice b m d] w fun e w' => e = .returned (.bool true) ∧ w' = w := by
  go_enter Try.func9, Try.ntmps9
  go_wp2
  go_ret
  exact ⟨rfl, rfl⟩

theorem bytes3_any (a b t : Option Addr) (n c m d l k : Nat) (w : World) (h1 : n ≤ maxLen) (h2 : m ≤ maxLen) (h3 : l ≤ maxLen) :
    Calls Try.prog 5 #[.slice a n c, .slice b m d, .slice t l k] w fun e w' => ∃ v, e = .returned (.bool v) ∧ w' = w := by
  unfold maxLen at *
  go_enter Try.func5, Try.ntmps5
  go_wp2
  all_goals (go_ret; exact ⟨_, rfl, rfl⟩)

theorem bytes2_any (a b : Option Addr) (n c m d : Nat) (w : World) (h1 : n ≤ maxLen) (h2 : m ≤ maxLen) :
    Calls Try.prog 9 #[.slice a n c, .slice b m d] w fun e w' => ∃ v, e = .returned (.bool v) ∧ w' = w := by
  unfold maxLen at *
  go_enter Try.func9, Try.ntmps9
  go_wp2
  all_goals (go_ret; exact ⟨_, rfl, rfl⟩)

end Go.Proofs.Qxb6628942a
