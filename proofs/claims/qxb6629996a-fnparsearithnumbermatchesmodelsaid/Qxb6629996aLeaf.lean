import Derived.Test.Qxb6629996aRows
import Derived.Test.Qxb6629996aPlain
import Derived.WalkKit
import Derived.ProofKit
import Derived.OpenShut
import Derived.Below
import Derived.WalkSpells
import Derived.WalkLawsBesides
import Derived.Outline
import Derived.Deep.QuietTactic
import Derived.BigQuiet
import Derived.Deep.DeepCutAuto
import Derived.Lib.Strings
import Derived.Lib.IndexBytes
namespace Go.Proofs.Qxb6629996a
open Go.ChangeShapes Go.WideShapes Go.ChangeAt Go.RowKit
set_option linter.unusedVariables false

theorem ret_int {k : IntKind} {a b : Int} (h : a = b) : Ending.returned (.int k a) = .returned (.int k b) := by rw [h]

theorem digit_any (c base : Int) (w : World) (h0 : 0 ≤ c) (h1 : c ≤ 255) :
    Calls Try.prog 16 #[.int .u8 c, .int .i64 base] w fun e w' => e = .returned (.int .i64 (dig c base)) ∧ w' = w := by
  by_cases a1 : 48 ≤ c
  · by_cases a2 : c ≤ 57
    · go_enter Try.func16, Try.ntmps16
      go_wp2
      go_ret
      exact ⟨ret_int (by unfold dig; rw [if_pos (by omega)]), rfl⟩
    · by_cases a3 : 97 ≤ c
      · by_cases a4 : c ≤ 122
        · go_enter Try.func16, Try.ntmps16
          go_wp2
          go_ret
          exact ⟨ret_int (by unfold dig; rw [if_neg (by omega), if_pos (by omega)]), rfl⟩
        · go_enter Try.func16, Try.ntmps16
          go_wp2
          go_ret
          exact ⟨ret_int (by unfold dig; rw [if_neg (by omega), if_neg (by omega), if_neg (by omega), if_neg (by omega)]), rfl⟩
      · by_cases a5 : 65 ≤ c
        · by_cases a6 : c ≤ 90
          · by_cases a7 : 36 < base
            · go_enter Try.func16, Try.ntmps16
              go_wp2
              go_ret
              exact ⟨ret_int (by unfold dig; rw [if_neg (by omega), if_neg (by omega), if_pos (by omega), if_pos a7]), rfl⟩
            · go_enter Try.func16, Try.ntmps16
              go_wp2
              go_ret
              exact ⟨ret_int (by unfold dig; rw [if_neg (by omega), if_neg (by omega), if_pos (by omega), if_neg (by omega)]), rfl⟩
          · go_enter Try.func16, Try.ntmps16
            go_wp2
            go_ret
            exact ⟨ret_int (by unfold dig; rw [if_neg (by omega), if_neg (by omega), if_neg (by omega), if_neg (by omega)]), rfl⟩
        · by_cases a8 : c = 64
          · subst a8
            go_enter Try.func16, Try.ntmps16
            go_wp2
            go_ret
            exact ⟨ret_int (by unfold dig; rw [if_neg (by omega), if_neg (by omega), if_neg (by omega), if_pos rfl]), rfl⟩
          · have a9 : (c == 64) = false := by simp [a8]
            clear a8
            go_enter Try.func16, Try.ntmps16
            go_wp2
            go_ret
            exact ⟨ret_int (by unfold dig; rw [if_neg (by omega), if_neg (by omega), if_neg (by omega), if_neg (by simpa using a9)]), rfl⟩
  · go_enter Try.func16, Try.ntmps16
    go_wp2
    go_ret
    exact ⟨ret_int (by unfold dig; rw [if_neg (by omega), if_neg (by omega), if_neg (by omega), if_neg (by omega)]), rfl⟩

/-- The alphabet, place by place. -/
def al (k : Nat) : Int := if k < 10 then 48 + k else if k < 36 then 87 + k else if k < 62 then 29 + k else 64
theorem alpha_all : ∀ k : Fin 63, ((({ data := #[48, 49, 50, 51, 52, 53, 54, 55, 56, 57, 97, 98, 99, 100, 101, 102, 103, 104, 105, 106, 107, 108, 109, 110, 111, 112, 113, 114, 115, 116, 117, 118, 119, 120, 121, 122, 65, 66, 67, 68, 69, 70, 71, 72, 73, 74, 75, 76, 77, 78, 79, 80, 81, 82, 83, 84, 85, 86, 87, 88, 89, 90, 64] } : ByteArray)[k.1]'(show k.1 < 63 from k.2)).toNat : Int) = al k.1 := by decide +kernel
theorem alpha_eq (k : Nat) (hk : k < 63) (c : Int) (b : Bool) (h : (al k == c) = b) :
    (((({ data := #[48, 49, 50, 51, 52, 53, 54, 55, 56, 57, 97, 98, 99, 100, 101, 102, 103, 104, 105, 106, 107, 108, 109, 110, 111, 112, 113, 114, 115, 116, 117, 118, 119, 120, 121, 122, 65, 66, 67, 68, 69, 70, 71, 72, 73, 74, 75, 76, 77, 78, 79, 80, 81, 82, 83, 84, 85, 86, 87, 88, 89, 90, 64] } : ByteArray)[k]'(show k < 63 from hk)).toNat : Int) == c) = b := by
  rw [← h, ← alpha_all ⟨k, hk⟩]

def idx (c : Int) : Int := if 48 ≤ c ∧ c ≤ 57 then c - 48 else if 97 ≤ c ∧ c ≤ 122 then c - 87 else if 65 ≤ c ∧ c ≤ 90 then c - 29 else if c = 64 then 62 else 63
theorem idx_bd (c : Int) : 0 ≤ idx c ∧ idx c ≤ 63 := by
  unfold idx; split <;> (try split) <;> (try split) <;> (try split) <;> omega
theorem idx_al {c : Int} {k : Nat} (hk : k < 63) : (al k == c) = decide (idx c = k) := by
  rw [Bool.eq_iff_iff, beq_iff_eq, decide_eq_true_eq]
  unfold al idx
  split <;> (try split) <;> (try split) <;> (try split) <;> (try split) <;> (try split) <;> (try split) <;> omega

set_option maxHeartbeats 400000 in
theorem zdigit_low (c base : Int) (w : World) (h0 : 0 ≤ c) (h1 : c ≤ 255) (hb : base ≤ 36) (h2 : 65 ≤ c) (h3 : c ≤ 90) :
    Calls Try.prog 10 #[.int .u8 c, .int .i64 base] w fun e w' => e = .returned (.int .i64 (idx (c - 65 + 97))) ∧ w' = w := by
  have hbd := idx_bd (c - 65 + 97)
  obtain ⟨m, hm⟩ : ∃ m : Nat, idx (c - 65 + 97) = m := ⟨(idx (c - 65 + 97)).toNat, by omega⟩
  have HM : Hid (idx (c - 65 + 97) = m) := hm
  rw [hm] at hbd ⊢
  clear hm
  go_enter Try.func10, Try.ntmps10
  go_wp2
  go_loop [5] (fun i => ∃ k : Nat, k ≤ m ∧ i = .int .i64 k) (fun i => 63 - (intOf i).toNat)
  case atStart => exact ⟨0, Nat.zero_le _, rfl⟩
  case round =>
    obtain ⟨k, hk, rfl⟩ := hrel
    by_cases hlt : k < 63
    · have hq := alpha_eq k hlt (c - 65 + 97) (decide (k = m)) (by rw [idx_al hlt, HM.out]; congr 1; rw [eq_iff_iff]; omega)
      by_cases e : k = m
      · subst e
        rw [decide_eq_true rfl] at hq
        go_wp2
        go_ret
        exact ⟨rfl, rfl⟩
      · rw [decide_eq_false e] at hq
        go_wp2
        go_round
        case rel => exact ⟨k + 1, by omega, by go_num⟩
        case measure => simp [intOf]; omega
    · obtain rfl : m = 63 := by omega
      go_wp2
      go_ret
      exact ⟨rfl, rfl⟩

set_option maxHeartbeats 800000 in
theorem zdigit_keep (c base : Int) (w : World) (h0 : 0 ≤ c) (h1 : c ≤ 255) (hb : 36 < base ∨ c < 65 ∨ 90 < c) :
    Calls Try.prog 10 #[.int .u8 c, .int .i64 base] w fun e w' => e = .returned (.int .i64 (idx c)) ∧ w' = w := by
  have hbd := idx_bd c
  obtain ⟨m, hm⟩ : ∃ m : Nat, idx c = m := ⟨(idx c).toNat, by omega⟩
  have HM : Hid (idx c = m) := hm
  rw [hm] at hbd ⊢
  clear hm
  by_cases x1 : 36 < base
  · clear hb
    go_enter Try.func10, Try.ntmps10
    go_wp2
    go_loop [5] (fun i => ∃ k : Nat, k ≤ m ∧ i = .int .i64 k) (fun i => 63 - (intOf i).toNat)
    case atStart => exact ⟨0, Nat.zero_le _, rfl⟩
    case round =>
      obtain ⟨k, hk, rfl⟩ := hrel
      by_cases hlt : k < 63
      · have hq := alpha_eq k hlt c (decide (k = m)) (by rw [idx_al hlt, HM.out]; congr 1; rw [eq_iff_iff]; omega)
        by_cases e : k = m
        · subst e
          rw [decide_eq_true rfl] at hq
          go_wp2
          go_ret
          exact ⟨rfl, rfl⟩
        · rw [decide_eq_false e] at hq
          go_wp2
          go_round
          case rel => exact ⟨k + 1, by omega, by go_num⟩
          case measure => simp [intOf]; omega
      · obtain rfl : m = 63 := by omega
        go_wp2
        go_ret
        exact ⟨rfl, rfl⟩
  by_cases x2 : c < 65
  · clear hb
    go_enter Try.func10, Try.ntmps10
    go_wp2
    go_loop [5] (fun i => ∃ k : Nat, k ≤ m ∧ i = .int .i64 k) (fun i => 63 - (intOf i).toNat)
    case atStart => exact ⟨0, Nat.zero_le _, rfl⟩
    case round =>
      obtain ⟨k, hk, rfl⟩ := hrel
      by_cases hlt : k < 63
      · have hq := alpha_eq k hlt c (decide (k = m)) (by rw [idx_al hlt, HM.out]; congr 1; rw [eq_iff_iff]; omega)
        by_cases e : k = m
        · subst e
          rw [decide_eq_true rfl] at hq
          go_wp2
          go_ret
          exact ⟨rfl, rfl⟩
        · rw [decide_eq_false e] at hq
          go_wp2
          go_round
          case rel => exact ⟨k + 1, by omega, by go_num⟩
          case measure => simp [intOf]; omega
      · obtain rfl : m = 63 := by omega
        go_wp2
        go_ret
        exact ⟨rfl, rfl⟩
  have x3 : 90 < c := by omega
  clear hb
  go_enter Try.func10, Try.ntmps10
  go_wp2
  go_loop [5] (fun i => ∃ k : Nat, k ≤ m ∧ i = .int .i64 k) (fun i => 63 - (intOf i).toNat)
  case atStart => exact ⟨0, Nat.zero_le _, rfl⟩
  case round =>
    obtain ⟨k, hk, rfl⟩ := hrel
    by_cases hlt : k < 63
    · have hq := alpha_eq k hlt c (decide (k = m)) (by rw [idx_al hlt, HM.out]; congr 1; rw [eq_iff_iff]; omega)
      by_cases e : k = m
      · subst e
        rw [decide_eq_true rfl] at hq
        go_wp2
        go_ret
        exact ⟨rfl, rfl⟩
      · rw [decide_eq_false e] at hq
        go_wp2
        go_round
        case rel => exact ⟨k + 1, by omega, by go_num⟩
        case measure => simp [intOf]; omega
    · obtain rfl : m = 63 := by omega
      go_wp2
      go_ret
      exact ⟨rfl, rfl⟩

theorem zdigit_any (c base : Int) (w : World) (h0 : 0 ≤ c) (h1 : c ≤ 255) :
    Calls Try.prog 10 #[.int .u8 c, .int .i64 base] w fun e w' => e = .returned (.int .i64 (dig c base)) ∧ w' = w := by
  by_cases x : base ≤ 36 ∧ 65 ≤ c ∧ c ≤ 90
  · have e : dig c base = idx (c - 65 + 97) := by
      unfold dig idx
      rw [if_neg (by omega), if_neg (by omega), if_pos (by omega), if_neg (by omega), if_neg (by omega), if_pos (by omega)]; omega
    rw [e]; exact zdigit_low c base w h0 h1 x.1 x.2.1 x.2.2
  · have e : dig c base = idx c := by
      unfold dig idx
      split <;> (try split) <;> (try split) <;> (try split) <;> omega
    rw [e]; exact zdigit_keep c base w h0 h1 (by omega)

theorem byte_bd (c : UInt8) : (0 : Int) ≤ (c.toNat : Int) ∧ (c.toNat : Int) ≤ 255 := by
  have := c.toNat_lt; omega

theorem drop_byte (d : ByteArray) (k : Nat) (h : k < d.size) : d.data.toList.drop k = d[k] :: d.data.toList.drop (k + 1) := by
  rw [List.drop_eq_getElem_cons (by simpa using h)]; rfl
theorem byte_35 (c : UInt8) : ((c.toNat : Int) == 35) = decide (c = 35) := by
  rw [Bool.eq_iff_iff, beq_iff_eq, decide_eq_true_eq]
  constructor
  · intro h; apply UInt8.toNat_inj.1; show c.toNat = 35; omega
  · rintro rfl; rfl

/-! zzIndexHash: the length of what stands ahead of the first '#'. -/
set_option maxHeartbeats 400000 in
theorem hash_any (d : ByteArray) (w : World) (hd : d.size ≤ 100000) :
    Calls Try.prog 11 #[.string d] w fun e w' => e = .returned (.int .i64 (if (brk d.data.toList).2.isSome then ((brk d.data.toList).1.length : Int) else -1)) ∧ w' = w := by
  generalize hR : (if (brk d.data.toList).2.isSome then ((brk d.data.toList).1.length : Int) else -1) = R
  have HR : Hid ((if (brk d.data.toList).2.isSome then ((brk d.data.toList).1.length : Int) else -1) = R) := hR
  clear hR
  go_enter Try.func11, Try.ntmps11
  go_wp2
  go_loop [3] (fun i => ∃ k : Nat, k ≤ d.size ∧ i = .int .i64 k ∧ (if (brk (d.data.toList.drop k)).2.isSome then ((k + (brk (d.data.toList.drop k)).1.length : Nat) : Int) else -1) = R) (fun i => d.size - (intOf i).toNat)
  case atStart => exact ⟨0, Nat.zero_le _, rfl, by rw [← HR.out, List.drop_zero]; simp⟩
  case round =>
    obtain ⟨k, hk, rfl, hr⟩ := hrel
    have HK : Hid ((if (brk (d.data.toList.drop k)).2.isSome then ((k + (brk (d.data.toList.drop k)).1.length : Nat) : Int) else -1) = R) := hr
    clear hr
    by_cases hlt : k < d.size
    · have hq := byte_35 d[k]
      by_cases e : d[k] = 35
      · rw [decide_eq_true e] at hq
        have hR : R = k := by
          rw [← HK.out, drop_byte d k hlt, brk, if_pos e]; simp
        have HR2 : Hid (R = k) := hR
        clear e hR
        go_wp2
        go_ret
        exact ⟨ret_int HR2.out.symm, rfl⟩
      · rw [decide_eq_false e] at hq
        have hnx : (if (brk (d.data.toList.drop (k + 1))).2.isSome then ((k + 1 + (brk (d.data.toList.drop (k + 1))).1.length : Nat) : Int) else -1) = R := by
          rw [← HK.out, drop_byte d k hlt, brk, if_neg e]
          simp only [List.length_cons]
          congr 2; omega
        have HN : Hid ((if (brk (d.data.toList.drop (k + 1))).2.isSome then ((k + 1 + (brk (d.data.toList.drop (k + 1))).1.length : Nat) : Int) else -1) = R) := hnx
        clear hnx e
        go_wp2
        go_round
        case rel => exact ⟨k + 1, by omega, by go_num, HN.out⟩
        case measure => simp [intOf]; omega
    · have hR : R = -1 := by
        rw [← HK.out, List.drop_of_length_le (by simp; omega)]; rfl
      have HR2 : Hid (R = -1) := hR
      clear hR
      go_wp2
      go_ret
      exact ⟨ret_int HR2.out.symm, rfl⟩

/-! zzValid -/
set_option maxHeartbeats 400000 in
theorem valid_any (d : ByteArray) (base : Int) (w : World) (hd : d.size ≤ 100000) :
    Calls Try.prog 12 #[.string d, .int .i64 base] w fun e w' => e = .returned (.bool (valid d.data.toList base)) ∧ w' = w := by
  generalize hR : valid d.data.toList base = R
  have HR : Hid (valid d.data.toList base = R) := hR
  clear hR
  go_enter Try.func12, Try.ntmps12
  go_wp2
  go_loop [5] (fun i => ∃ k : Nat, k ≤ d.size ∧ i = .int .i64 k ∧ valid (d.data.toList.drop k) base = R) (fun i => d.size - (intOf i).toNat)
  case atStart => exact ⟨0, Nat.zero_le _, rfl, HR.out⟩
  case round =>
    obtain ⟨k, hk, rfl, hr⟩ := hrel
    have HK : Hid (valid (d.data.toList.drop k) base = R) := hr
    clear hr
    by_cases hlt : k < d.size
    · have hb := byte_bd d[k]
      by_cases e : dig (d[k].toNat : Int) base < base
      · have hnx : valid (d.data.toList.drop (k + 1)) base = R := by
          rw [← HK.out, drop_byte d k hlt]; simp [valid, dg, e]
        have HN : Hid (valid (d.data.toList.drop (k + 1)) base = R) := hnx
        clear hnx
        go_wp2_with fail
        refine (zdigit_any _ _ _ (by omega) (by omega)).mono ?_
        rintro e w' ⟨rfl, rfl⟩
        go_wp2
        go_round
        case rel => exact ⟨k + 1, by omega, by go_num, HN.out⟩
        case measure => simp [intOf]; omega
      · have hR : R = false := by
          rw [← HK.out, drop_byte d k hlt]; simp [valid, dg, e]
        subst hR
        go_wp2_with fail
        refine (zdigit_any _ _ _ (by omega) (by omega)).mono ?_
        rintro e w' ⟨rfl, rfl⟩
        go_wp2
        go_ret
        exact ⟨rfl, rfl⟩
    · have hR : R = true := by
        rw [← HK.out, List.drop_of_length_le (by simp; omega)]; rfl
      subst hR
      go_wp2
      go_ret
      exact ⟨rfl, rfl⟩

/-! zzValue -/
theorem wrap64_one : wrap64 1 = 1 := by unfold wrap64; omega
theorem hv_split (base : Int) : ∀ (l : List UInt8) (n : Int), hv base n l = n * base ^ l.length + hv base 0 l
  | [], n => by simp [hv]
  | c :: r, n => by
    rw [hv, hv, hv_split base r (n * base + dg c base), hv_split base r (0 * base + dg c base), List.length_cons, Int.pow_succ', Int.add_mul, Int.zero_mul, Int.zero_add, Int.mul_assoc, Int.add_assoc]

theorem hv_cons (base : Int) (c : UInt8) (r : List UInt8) : hv base 0 (c :: r) = hv base 0 r + dg c base * base ^ r.length := by
  rw [hv, hv_split, Int.zero_mul, Int.zero_add, Int.add_comm]

set_option maxHeartbeats 400000 in
theorem value_any (d : ByteArray) (base : Int) (w : World) (hd : d.size ≤ 100000) :
    Calls Try.prog 13 #[.string d, .int .i64 base] w fun e w' => e = .returned (.int .i64 (val d.data.toList base)) ∧ w' = w := by
  go_enter Try.func13, Try.ntmps13
  go_wp2
  go_loop [5, 6, 7] (fun v p i => ∃ (k : Nat) (V P : Int), k ≤ d.size ∧ i = .int .i64 ((k : Int) - 1) ∧ v = .int .i64 V ∧ p = .int .i64 P ∧ V = wrap64 (hv base 0 (d.data.toList.drop k)) ∧ P = wrap64 (base ^ (d.size - k))) (fun _ _ i => (intOf i + 1).toNat)
  case atStart => exact ⟨d.size, 0, 1, Nat.le_refl _, rfl, rfl, rfl, by rw [List.drop_of_length_le (by simp)]; exact wrap64_zero.symm, by rw [Nat.sub_self, Int.pow_zero]; exact wrap64_one.symm⟩
  case round =>
    obtain ⟨k, V, P, hk, rfl, rfl, rfl, hV, hP⟩ := hrel
    have HV : Hid (V = wrap64 (hv base 0 (d.data.toList.drop k))) := hV
    have HP : Hid (P = wrap64 (base ^ (d.size - k))) := hP
    clear hV hP
    cases k with
    | zero =>
      go_wp2
      go_ret
      exact ⟨ret_int (by rw [HV.out]; rfl), rfl⟩
    | succ j =>
      have hj : j < d.size := by omega
      have hb := byte_bd d[j]
      have h1 : wrap64 (V + wrap64 (dig (d[j].toNat : Int) base * P)) = wrap64 (hv base 0 (d.data.toList.drop j)) := by
        rw [HV.out, HP.out, wrap64_add_mul, drop_byte d j hj, hv_cons]
        have : (d.data.toList.drop (j + 1)).length = d.size - (j + 1) := by simp
        rw [this]; rfl
      have h2 : wrap64 (P * base) = wrap64 (base ^ (d.size - j)) := by
        rw [HP.out, wrap64_mul, ← Int.pow_succ, show (d.size - (j + 1)).succ = d.size - j by omega]
      have H1 : Hid (wrap64 (V + wrap64 (dig (d[j].toNat : Int) base * P)) = wrap64 (hv base 0 (d.data.toList.drop j))) := h1
      have H2 : Hid (wrap64 (P * base) = wrap64 (base ^ (d.size - j))) := h2
      clear h1 h2
      have e1 : (((j + 1 : Nat) : Int) - 1) = (j : Int) := by omega
      rw [e1]
      go_wp2_with fail
      refine (zdigit_any _ _ _ (by omega) (by omega)).mono ?_
      rintro e w' ⟨rfl, rfl⟩
      go_wp2
      go_round
      case rel => exact ⟨j, _, _, by omega, rfl, rfl, rfl, H1.out, H2.out⟩
      case measure => simp [intOf]

/-! The small ones. -/
theorem bytes5_any (d : ByteArray) (w : World) : Calls Try.prog 5 #[.string d] w fun e w' => e = .returned (.bool (decide (d.size ≤ 1048576))) ∧ w' = w := by
  by_cases h : d.size ≤ 1048576
  · rw [decide_eq_true h]
    go_enter Try.func5, Try.ntmps5
    go_wp2
    go_ret
    exact ⟨rfl, rfl⟩
  · rw [decide_eq_false h]
    go_enter Try.func5, Try.ntmps5
    go_wp2
    go_ret
    exact ⟨rfl, rfl⟩
theorem bytes8_any (d : ByteArray) (w : World) : Calls Try.prog 8 #[.string d] w fun e w' => e = .returned (.bool (decide (d.size ≤ 1048576))) ∧ w' = w := by
  by_cases h : d.size ≤ 1048576
  · rw [decide_eq_true h]
    go_enter Try.func8, Try.ntmps8
    go_wp2
    go_ret
    exact ⟨rfl, rfl⟩
  · rw [decide_eq_false h]
    go_enter Try.func8, Try.ntmps8
    go_wp2
    go_ret
    exact ⟨rfl, rfl⟩

def hex (c : Int) : Bool := decide (48 ≤ c ∧ c ≤ 57 ∨ 97 ≤ c ∧ c ≤ 102 ∨ 65 ≤ c ∧ c ≤ 70)
theorem hex_any (c : Int) (w : World) (h0 : 0 ≤ c) (h1 : c ≤ 255) : Calls Try.prog 9 #[.int .u8 c] w fun e w' => e = .returned (.bool (hex c)) ∧ w' = w := by
  by_cases a1 : 48 ≤ c
  · by_cases a2 : c ≤ 57
    · rw [show hex c = true from decide_eq_true (by omega)]
      go_enter Try.func9, Try.ntmps9
      go_wp2
      go_ret
      exact ⟨rfl, rfl⟩
    · by_cases a3 : 97 ≤ c
      · by_cases a4 : c ≤ 102
        · rw [show hex c = true from decide_eq_true (by omega)]
          go_enter Try.func9, Try.ntmps9
          go_wp2
          go_ret
          exact ⟨rfl, rfl⟩
        · rw [show hex c = false from decide_eq_false (by omega)]
          have a7 : decide (c ≤ 70) = false := decide_eq_false (by omega)
          go_enter Try.func9, Try.ntmps9
          go_wp2
          go_ret
          exact ⟨rfl, rfl⟩
      · by_cases a5 : 65 ≤ c
        · by_cases a6 : c ≤ 70
          · rw [show hex c = true from decide_eq_true (by omega)]
            go_enter Try.func9, Try.ntmps9
            go_wp2
            go_ret
            exact ⟨rfl, rfl⟩
          · rw [show hex c = false from decide_eq_false (by omega)]
            have a7 : decide (c ≤ 70) = false := decide_eq_false a6
            go_enter Try.func9, Try.ntmps9
            go_wp2
            go_ret
            exact ⟨rfl, rfl⟩
        · rw [show hex c = false from decide_eq_false (by omega)]
          go_enter Try.func9, Try.ntmps9
          go_wp2
          go_ret
          exact ⟨rfl, rfl⟩
  · rw [show hex c = false from decide_eq_false (by omega)]
    go_enter Try.func9, Try.ntmps9
    go_wp2
    go_ret
    exact ⟨rfl, rfl⟩

theorem toList_eq (d : ByteArray) : d.toList = d.data.toList := Lib.toList_data d
theorem ret_bool {a b : Bool} (h : a = b) : Ending.returned (.bool a) = .returned (.bool b) := by rw [h]

/-- strings.HasPrefix at two bytes. -/
theorem pfx_any (d : ByteArray) (x y : UInt8) (w : World) :
    Calls Try.prog 15 #[.string d, .string ⟨#[x, y]⟩] w fun e w' => e = .returned (.bool (d.data.toList.take 2 == [x, y])) ∧ w' = w := by
  by_cases h : 2 ≤ d.size
  · have e : (d.extract 0 2).toList = d.data.toList.take 2 := by
      rw [toList_eq, Lib.extract_data]; simp
    generalize d.data.toList.take 2 = L at *
    have E : Hid ((d.extract 0 2).toList = L) := e
    clear e
    go_enter Try.func15, Try.ntmps15
    go_wp2
    go_ret
    exact ⟨ret_bool (by rw [E.out]), rfl⟩
  · have e : (d.data.toList.take 2 == [x, y]) = false := by
      rw [beq_eq_false_iff_ne]
      intro hh
      have := congrArg List.length hh
      simp at this; omega
    rw [e]; clear e
    go_enter Try.func15, Try.ntmps15
    go_wp2
    go_ret
    exact ⟨rfl, rfl⟩
end Go.Proofs.Qxb6629996a
