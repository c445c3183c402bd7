import Derived.RowKit
namespace Go.Proofs.Qxb6629996a
open Go.RowKit

/-! The plain functions and the plain law: no Go in sight. A byte is a number of 'UInt8'; 'm64' says: equal modulo 2^64. -/
def dig (c base : Int) : Int :=
  if 48 ≤ c ∧ c ≤ 57 then c - 48
  else if 97 ≤ c ∧ c ≤ 122 then c - 97 + 10
  else if 65 ≤ c ∧ c ≤ 90 then (if 36 < base then c - 65 + 36 else c - 65 + 10)
  else if c = 64 then 62 else 63

theorem dig_bd (c base : Int) : 0 ≤ dig c base ∧ dig c base ≤ 63 := by
  unfold dig; split <;> (try split) <;> (try split) <;> (try split) <;> omega

def dg (c : UInt8) (base : Int) : Int := dig (c.toNat : Int) base

/-- What is wrong, by its number: 0 nothing, 1 'invalid number', 2 'invalid arithmetic base', 3 'invalid integer constant', 4 'value too great for base'. -/
def run : List UInt8 → Int → Int → Bool → Int × Nat
  | [], _, n, _ => (n, 0)
  | c :: r, base, n, based =>
    if c = 35 then
      if based = true then (0, 1) else if n < 2 ∨ 64 < n then (0, 2) else if r = [] then (0, 3) else run r n 0 true
    else if base ≤ dg c base then (0, 4) else run r base (wrap64 (wrap64 (n * base) + dg c base)) based

def start (l : List UInt8) : Int × List UInt8 × Bool :=
  match l with
  | 48 :: 120 :: r => (16, r, true)
  | 48 :: 88 :: r => (16, r, true)
  | 48 :: r => (8, r, true)
  | l => (10, l, false)

def parse (l : List UInt8) : Int × Nat := run (start l).2.1 (start l).1 0 (start l).2.2

/-! The segment model. -/
def valid (l : List UInt8) (base : Int) : Bool := l.all fun c => decide (dg c base < base)
def hv (base : Int) : Int → List UInt8 → Int
  | n, [] => n
  | n, c :: r => hv base (n * base + dg c base) r
def val (l : List UInt8) (base : Int) : Int := wrap64 (hv base 0 l)

/-- What stands ahead of the first '#', and what stands behind it. -/
def brk : List UInt8 → List UInt8 × Option (List UInt8)
  | [] => ([], none)
  | c :: r => if c = 35 then ([], some r) else (c :: (brk r).1, (brk r).2)

def seg (ds : List UInt8) (base : Int) (based : Bool) : Int × Nat :=
  match (brk ds).2 with
  | none => if valid ds base = true then (val ds base, 0) else (0, 4)
  | some tail =>
    if valid (brk ds).1 base = true then
      if based = true then (0, 1)
      else if val (brk ds).1 10 < 2 ∨ 64 < val (brk ds).1 10 then (0, 2)
      else if tail = [] then (0, 3)
      else match (brk tail).2 with
        | none => if valid tail (val (brk ds).1 10) = true then (val tail (val (brk ds).1 10), 0) else (0, 4)
        | some _ => if valid (brk tail).1 (val (brk ds).1 10) = true then (0, 1) else (0, 4)
    else (0, 4)

def model (l : List UInt8) : Int × Nat := seg (start l).2.1 (start l).1 (start l).2.2

/-! Wrapping. -/
theorem wrap64_mul_add (a b d : Int) : wrap64 (wrap64 (wrap64 a * b) + d) = wrap64 (a * b + d) := by
  have h1 : ∀ x : Int, ∃ k : Int, wrap64 x = x + 18446744073709551616 * k := fun x => ⟨-((x + 9223372036854775808) / 18446744073709551616), by unfold wrap64; omega⟩
  have h2 : ∀ x k : Int, wrap64 (x + 18446744073709551616 * k) = wrap64 x := fun x k => by unfold wrap64; omega
  obtain ⟨k, hk⟩ := h1 a
  obtain ⟨m, hm⟩ := h1 (wrap64 a * b)
  rw [hm, hk]
  have e : (a + 18446744073709551616 * k) * b + 18446744073709551616 * m + d = (a * b + d) + 18446744073709551616 * (k * b + m) := by
    rw [Int.add_mul, Int.mul_add, Int.mul_assoc]; omega
  rw [e, h2]

theorem wrap64_zero : wrap64 0 = 0 := by unfold wrap64; omega

/-- 'v + d * p', 'v' and 'p' wrapped. -/
theorem wrap64_add_mul (v d p : Int) : wrap64 (wrap64 v + wrap64 (d * wrap64 p)) = wrap64 (v + d * p) := by
  have h1 : ∀ x : Int, ∃ k : Int, wrap64 x = x + 18446744073709551616 * k := fun x => ⟨-((x + 9223372036854775808) / 18446744073709551616), by unfold wrap64; omega⟩
  have h2 : ∀ x k : Int, wrap64 (x + 18446744073709551616 * k) = wrap64 x := fun x k => by unfold wrap64; omega
  obtain ⟨k, hk⟩ := h1 v
  obtain ⟨j, hj⟩ := h1 p
  obtain ⟨m, hm⟩ := h1 (d * wrap64 p)
  rw [hm, hk, hj]
  have e : v + 18446744073709551616 * k + (d * (p + 18446744073709551616 * j) + 18446744073709551616 * m) = (v + d * p) + 18446744073709551616 * (k + d * j + m) := by
    rw [Int.mul_add, ← Int.mul_assoc d, Int.mul_comm d 18446744073709551616, Int.mul_assoc]; omega
  rw [e, h2]

theorem wrap64_mul (p b : Int) : wrap64 (wrap64 p * b) = wrap64 (p * b) := by
  have h1 : ∀ x : Int, ∃ k : Int, wrap64 x = x + 18446744073709551616 * k := fun x => ⟨-((x + 9223372036854775808) / 18446744073709551616), by unfold wrap64; omega⟩
  have h2 : ∀ x k : Int, wrap64 (x + 18446744073709551616 * k) = wrap64 x := fun x k => by unfold wrap64; omega
  obtain ⟨k, hk⟩ := h1 p
  rw [hk, Int.add_mul, Int.mul_assoc, h2]

/-! A piece without '#'. -/
def free (l : List UInt8) : Prop := ∀ c ∈ l, c ≠ 35

theorem run_free (base : Int) (based : Bool) (rest : List UInt8) : ∀ (l : List UInt8) (N : Int), free l →
    run (l ++ rest) base (wrap64 N) based = if valid l base = true then run rest base (wrap64 (hv base N l)) based else (0, 4)
  | [], N, _ => by simp [valid, hv]
  | c :: r, N, h => by
    have hc : c ≠ 35 := h c (by simp)
    have ih := run_free base based rest r (N * base + dg c base) (fun x hx => h x (by simp [hx]))
    rw [List.cons_append, run, if_neg hc]
    by_cases hd : base ≤ dg c base
    · rw [if_pos hd, if_neg ?_]
      simp [valid]; intro hlt; omega
    · rw [if_neg hd, wrap64_mul_add, ih]
      have hd' : dg c base < base := by omega
      simp [valid, hd', hv]

theorem brk_free : ∀ l : List UInt8, free (brk l).1
  | [] => fun c hc => by simp [brk] at hc
  | c :: r => by
    intro x hx
    unfold brk at hx
    split at hx
    · simp at hx
    · simp only [List.mem_cons] at hx
      rcases hx with rfl | hx
      · assumption
      · exact brk_free r x hx

theorem brk_none : ∀ l : List UInt8, (brk l).2 = none → (brk l).1 = l
  | [], _ => rfl
  | c :: r, h => by
    unfold brk at h ⊢
    split at h
    · simp at h
    · rename_i hc
      rw [if_neg hc]
      simp only at h ⊢
      rw [brk_none r h]

theorem brk_some : ∀ (l t : List UInt8), (brk l).2 = some t → l = (brk l).1 ++ 35 :: t
  | [], t, h => by simp [brk] at h
  | c :: r, t, h => by
    unfold brk at h ⊢
    split at h
    · rename_i hc
      simp only [Option.some.injEq] at h
      rw [if_pos hc, hc, h]; rfl
    · rename_i hc
      rw [if_neg hc]
      simp only at h ⊢
      rw [List.cons_append, ← brk_some r t h]

/-- THE PLAIN LAW: reading byte by byte comes to what the segments say. -/
theorem run_seg (ds : List UInt8) (base : Int) (based : Bool) (hb : based = false → base = 10) : run ds base 0 based = seg ds base based := by
  have h0 := run_free base based
  unfold seg
  cases hk : (brk ds).2 with
  | none =>
    have h1 := h0 [] ds 0 (by rw [← brk_none ds hk]; exact brk_free ds)
    rw [wrap64_zero, List.append_nil] at h1
    rw [h1]; rfl
  | some tail =>
    have e := brk_some ds tail hk
    have h1 := h0 (35 :: tail) (brk ds).1 0 (brk_free ds)
    rw [wrap64_zero, ← e] at h1
    rw [h1]
    simp only []
    by_cases hv1 : valid (brk ds).1 base = true
    · rw [if_pos hv1, if_pos hv1, run, if_pos rfl]
      cases based with
      | true => rfl
      | false =>
        obtain rfl := hb rfl
        show (if false = true then _ else if val (brk ds).1 10 < 2 ∨ 64 < val (brk ds).1 10 then ((0 : Int), 2) else if tail = [] then (0, 3) else run tail (val (brk ds).1 10) 0 true) = _
        simp only [Bool.false_eq_true, if_false]
        by_cases hn : val (brk ds).1 10 < 2 ∨ 64 < val (brk ds).1 10
        · rw [if_pos hn, if_pos hn]
        · rw [if_neg hn, if_neg hn]
          by_cases ht : tail = []
          · rw [if_pos ht, if_pos ht]
          · rw [if_neg ht, if_neg ht]
            generalize val (brk ds).1 10 = nb
            cases hq : (brk tail).2 with
            | none =>
              have h2 := run_free nb true [] tail 0 (by rw [← brk_none tail hq]; exact brk_free tail)
              rw [wrap64_zero, List.append_nil] at h2
              rw [h2]; rfl
            | some u =>
              have e2 := brk_some tail u hq
              have h2 := run_free nb true (35 :: u) (brk tail).1 0 (brk_free tail)
              rw [wrap64_zero, ← e2] at h2
              rw [h2]; rfl
    · rw [if_neg hv1, if_neg hv1]

theorem start_base (l : List UInt8) : (start l).2.2 = false → (start l).1 = 10 := by
  unfold start
  split <;> simp

theorem parse_model (l : List UInt8) : parse l = model l := run_seg _ _ _ (start_base l)

end Go.Proofs.Qxb6629996a
