import Derived.Test.Qxb6628976aRows
import Derived.WalkKit
import Derived.ProofKit
import Derived.OpenShut
import Derived.Below
import Derived.WalkSpells
import Derived.WalkLawsBesides
import Derived.Outline
import Derived.Deep.QuietTactic
import Derived.BigQuiet
import Derived.Deep.DeepCutAuto
namespace Go.Proofs.Qxb6628976a
open Go.ChangeShapes Go.WideShapes Go.ChangeAt Go.RowKit
set_option linter.unusedVariables false

/-- The slice at 'a' of 'n' rows (a string, a number: two cells each) reads as 's', 'g' in the world 'w'. -/
def Rw (w : World) (a : Option Addr) (n : Nat) (s : Nat → ByteArray) (g : Nat → Int) : Prop :=
  n = 0 ∨ ∃ b off, a = some ⟨b, off, none⟩ ∧ ∀ i, i < n → w.cell? ⟨b, off + i * 2, none⟩ = some (.string (s i)) ∧ w.cell? ⟨b, off + i * 2 + 1, none⟩ = some (.int .i64 (g i))

/-- Some bool; if it says false, 'p' holds. -/
def Says (p : Prop) (e : Ending) : Prop := ∃ v, e = .returned (.bool v) ∧ (v = false → p)
theorem Says.yes {p : Prop} : Says p (.returned (.bool true)) := ⟨true, rfl, fun h => by cases h⟩
theorem Says.no {p : Prop} (h : p) : Says p (.returned (.bool false)) := ⟨false, rfl, fun _ => h⟩

theorem addLen_any (t n : Int) (w : World) (h0 : 0 ≤ t) (h1 : 0 ≤ n) :
    Calls Try.prog 10 #[.int .i64 t, .int .i64 n] w fun e w' => ∃ r : Int, (0 ≤ r ∧ r ≤ 2097152) ∧ e = .returned (.int .i64 r) ∧ w' = w := by
  by_cases h2 : 1048576 < n
  · go_enter Try.func10, Try.ntmps10
    go_wp2
    go_ret
    exact ⟨_, ⟨by omega, by omega⟩, rfl, rfl⟩
  by_cases h3 : 1048576 < t
  · go_enter Try.func10, Try.ntmps10
    go_wp2
    go_ret
    exact ⟨_, ⟨by omega, by omega⟩, rfl, rfl⟩
  · go_enter Try.func10, Try.ntmps10
    go_wp2
    go_ret
    exact ⟨_, ⟨by omega, by omega⟩, rfl, rfl⟩

set_option maxHeartbeats 400000 in
theorem tooBig_any (s0 s1 s2 s3 s4 : ByteArray) (a : Option Addr) (n c : Nat) (s : Nat → ByteArray) (g : Nat → Int) (w : World) (hr : Rw w a n s g) :
    Calls Try.prog 6 #[.string s0, .string s1, .string s2, .string s3, .string s4, .slice a n c] w fun e w' => Says (n ≤ 65536) e ∧ w' = w := by
  have Hr : Hid (Rw w a n s g) := hr
  clear hr
  by_cases hn : 65536 < n
  · go_enter Try.func6, Try.ntmps6
    go_wp2
    go_ret
    exact ⟨Says.yes, rfl⟩
  go_enter Try.func6, Try.ntmps6
  go_wp2_with fail
  refine (addLen_any _ _ _ (by omega) (by omega)).mono ?_
  rintro e w' ⟨r0, hr0, rfl, rfl⟩
  go_wp2_with fail
  refine (addLen_any _ _ _ (by omega) (by omega)).mono ?_
  rintro e w' ⟨r1, hr1, rfl, rfl⟩
  go_wp2_with fail
  refine (addLen_any _ _ _ (by omega) (by omega)).mono ?_
  rintro e w' ⟨r2, hr2, rfl, rfl⟩
  go_wp2_with fail
  refine (addLen_any _ _ _ (by omega) (by omega)).mono ?_
  rintro e w' ⟨r3, hr3, rfl, rfl⟩
  go_wp2_with fail
  refine (addLen_any _ _ _ (by omega) (by omega)).mono ?_
  rintro e w' ⟨r4, hr4, rfl, rfl⟩
  by_cases h4 : 1048576 < r4
  · go_wp2
    go_ret
    exact ⟨Says.yes, rfl⟩
  go_wp2
  go_loop [13, 14] (fun t i => ∃ (k : Nat) (z : Int), k ≤ n ∧ i = .int .i64 k ∧ t = .int .i64 z ∧ 0 ≤ z ∧ z ≤ 2097152) (fun _ i => n - (intOf i).toNat)
  case atStart => exact ⟨0, r4, Nat.zero_le _, rfl, rfl, by omega, by omega⟩
  case round =>
    obtain ⟨k, z, hk, rfl, rfl, hz0, hz1⟩ := hrel
    by_cases hlt : k < n
    · rcases Hr.out with h0 | ⟨b, off, rfl, hc⟩
      · omega
      obtain ⟨c0, c1⟩ := hc k hlt
      clear hc
      go_wp2_with fail
      refine (addLen_any _ _ _ (by omega) (by omega)).mono ?_
      rintro e w2 ⟨r5, hr5, rfl, rfl⟩
      go_wp2_with fail
      refine (addLen_any _ _ _ (by omega) (by omega)).mono ?_
      rintro e w3 ⟨r6, hr6, rfl, rfl⟩
      by_cases h6 : 1048576 < r6
      · go_wp2
        go_ret
        exact ⟨Says.yes, rfl⟩
      · go_wp2
        go_round
        case rel => exact ⟨k + 1, r6, by omega, by go_num, rfl, by omega, by omega⟩
        case measure => simp [intOf]; omega
    · go_wp2
      go_ret
      exact ⟨Says.no (by omega), rfl⟩

set_option maxHeartbeats 400000 in
theorem bytes9_any (i0 : Int) (s1 s2 s3 s5 : ByteArray) (a : Option Addr) (n c : Nat) (s : Nat → ByteArray) (g : Nat → Int) (w : World) (hr : Rw w a n s g) :
    Calls Try.prog 9 #[.int .i64 i0, .string s1, .string s2, .string s3, .slice a n c, .string s5] w fun e w' => Says True e ∧ w' = w := by
  have Hr : Hid (Rw w a n s g) := hr
  clear hr
  go_enter Try.func9, Try.ntmps9
  go_wp2
  all_goals try (go_ret; first | exact ⟨Says.yes, rfl⟩ | exact ⟨Says.no trivial, rfl⟩)
  go_loop [13, 14] (fun t i => ∃ (k : Nat) (z : Int), k ≤ n ∧ i = .int .i64 k ∧ t = .int .i64 z ∧ 0 ≤ z ∧ z ≤ 1048576) (fun _ i => n - (intOf i).toNat)
  case atStart => exact ⟨0, _, Nat.zero_le _, rfl, rfl, by omega, by omega⟩
  case round =>
    obtain ⟨k, z, hk, rfl, rfl, hz0, hz1⟩ := hrel
    by_cases hlt : k < n
    · rcases Hr.out with h0 | ⟨b, off, rfl, hc⟩
      · omega
      obtain ⟨c0, c1⟩ := hc k hlt
      clear hc
      go_wp2
      all_goals first | (go_ret; exact ⟨Says.no trivial, rfl⟩) | skip
      go_round
      case rel => exact ⟨k + 1, _, by omega, by go_num, rfl, by omega, by omega⟩
      case measure => simp [intOf]; omega
    · go_wp2
      all_goals (go_ret; first | exact ⟨Says.yes, rfl⟩ | exact ⟨Says.no trivial, rfl⟩)

set_option maxHeartbeats 400000 in
theorem bytes5_any (i0 at5 : Int) (s1 s2 s3 s7 xs : ByteArray) (xg : Int) (a : Option Addr) (n c : Nat) (s : Nat → ByteArray) (g : Nat → Int) (w : World) (hr : Rw w a n s g) :
    Calls Try.prog 5 #[.int .i64 i0, .string s1, .string s2, .string s3, .slice a n c, .int .i64 at5, .agg #[.string xs, .int .i64 xg], .string s7] w fun e w' => Says True e ∧ Below w.heap.size w w' := by
  have Hr : Hid (Rw w a n s g) := hr
  clear hr
  have HB : ∀ o, Hid (Below w.heap.size w (w.alloc o)) := fun o => (Below.refl _ _).alloc (Nat.le_refl _) o
  go_enter Try.func5, Try.ntmps5
  go_wp2
  all_goals try (go_ret; first | exact ⟨Says.yes, (HB _).out⟩ | exact ⟨Says.no trivial, (HB _).out⟩)
  go_loop [17, 18] (fun t i => ∃ (k : Nat) (z : Int), k ≤ n ∧ i = .int .i64 k ∧ t = .int .i64 z ∧ 0 ≤ z ∧ z ≤ 1048576) (fun _ i => n - (intOf i).toNat)
  case atStart => exact ⟨0, _, Nat.zero_le _, rfl, rfl, by omega, by omega⟩
  case round =>
    obtain ⟨k, z, hk, rfl, rfl, hz0, hz1⟩ := hrel
    by_cases hlt : k < n
    · rcases Hr.out with h0 | ⟨b, off, rfl, hc⟩
      · omega
      obtain ⟨c0, c1⟩ := hc k hlt
      have hb : b < w.heap.size := World.block_lt_of_cell? w _ c0
      have hb' : w.heap.size ≠ b := by omega
      clear hc
      go_wp2
      all_goals first | (go_ret; exact ⟨Says.no trivial, (HB _).out⟩) | skip
      go_round
      case rel => exact ⟨k + 1, _, by omega, by go_num, rfl, by omega, by omega⟩
      case measure => simp [intOf]; omega
    · go_wp2
      all_goals (go_ret; first | exact ⟨Says.yes, (HB _).out⟩ | exact ⟨Says.no trivial, (HB _).out⟩)
end Go.Proofs.Qxb6628976a
