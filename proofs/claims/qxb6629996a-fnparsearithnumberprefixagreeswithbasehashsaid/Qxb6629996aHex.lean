import Derived.Test.Qxb6629996aModel
namespace Go.Proofs.Qxb6629996a
open Go.ChangeShapes Go.WideShapes Go.ChangeAt Go.RowKit
set_option linter.unusedVariables false
theorem and15 (x : Int) : bits BinOp.and IntKind.i64 x 15 = x % 16 := by
  have h1 : (BitVec.ofInt 64 x &&& BitVec.ofInt 64 15).toNat = (x % 18446744073709551616).toNat % 16 := by
    rw [BitVec.toNat_and, BitVec.toNat_ofInt]
    exact Nat.and_two_pow_sub_one_eq_mod _ 4
  show IntKind.i64.wrap (((BitVec.ofInt 64 x &&& BitVec.ofInt 64 15).toNat : Nat) : Int) = _
  rw [h1, IntKind.wrap_i64]
  omega

/-! The plain law of the prefixes. -/
def hx (c : UInt8) : Bool := hex (c.toNat : Int)
theorem hx_dg (c : UInt8) : hx c = decide (dg c 16 < 16) := by
  have hb := byte_bd c
  unfold hx hex dg dig
  rw [Bool.eq_iff_iff, decide_eq_true_eq, decide_eq_true_eq]
  split
  · omega
  split
  · omega
  split
  · rw [if_neg (by omega)]; omega
  split <;> omega
theorem hx_35 : hx 35 = false := by decide

theorem run_hex : ∀ (l : List UInt8) (N : Int), l.all hx = true → run l 16 (wrap64 N) true = (wrap64 (hv 16 N l), 0)
  | [], N, _ => rfl
  | c :: r, N, h => by
    simp only [List.all_cons, Bool.and_eq_true] at h
    obtain ⟨h1, h2⟩ := h
    have hc : c ≠ 35 := fun e => by rw [e, hx_35] at h1; cases h1
    rw [hx_dg, decide_eq_true_eq] at h1
    rw [run, if_neg hc, if_neg (by omega), wrap64_mul_add, run_hex r _ h2]; rfl

theorem run_nohex : ∀ (l : List UInt8) (n : Int), l.all hx = false → run l 16 n true = (0, 1) ∨ run l 16 n true = (0, 4)
  | [], _, h => by simp at h
  | c :: r, n, h => by
    rw [run]
    by_cases hc : c = 35
    · rw [if_pos hc, if_pos rfl]; exact .inl rfl
    · rw [if_neg hc]
      by_cases hd : 16 ≤ dg c 16
      · rw [if_pos hd]; exact .inr rfl
      · rw [if_neg hd]
        have h1 : hx c = true := by rw [hx_dg, decide_eq_true_eq]; omega
        refine run_nohex r _ ?_
        simpa [h1] using h

theorem hv_mod (l : List UInt8) (c : UInt8) (n : Int) : hv 16 n (l ++ [c]) % 16 = dg c 16 % 16 := by
  induction l generalizing n with
  | nil => show (n * 16 + dg c 16) % 16 = _; omega
  | cons a r ih => exact ih _

theorem wrap64_mod (x : Int) : wrap64 x % 16 = x % 16 := by unfold wrap64; omega

theorem parse_0x (l : List UInt8) : parse (48 :: 120 :: l) = run l 16 0 true := rfl
theorem parse_0X (l : List UInt8) : parse (48 :: 88 :: l) = run l 16 0 true := rfl
theorem parse_16 (l : List UInt8) (h : l ≠ []) : parse (49 :: 54 :: 35 :: l) = run l 16 0 true := by
  have e1 : wrap64 (wrap64 (0 * 10) + dg 49 10) = 1 := by rw [show dg 49 10 = 1 by decide]; unfold wrap64; omega
  have e2 : wrap64 (wrap64 (1 * 10) + dg 54 10) = 16 := by rw [show dg 54 10 = 6 by decide]; unfold wrap64; omega
  show run (49 :: 54 :: 35 :: l) 10 0 false = _
  rw [run, if_neg (by decide), if_neg (by decide), e1, run, if_neg (by decide), if_neg (by decide), e2, run, if_pos rfl, if_neg (by decide), if_neg (by decide), if_neg h]
theorem parse_8 (l : List UInt8) (h : l ≠ []) : parse (56 :: 35 :: l) = run l 8 0 true := by
  have e1 : wrap64 (wrap64 (0 * 10) + dg 56 10) = 8 := by rw [show dg 56 10 = 8 by decide]; unfold wrap64; omega
  show run (56 :: 35 :: l) 10 0 false = _
  rw [run, if_neg (by decide), if_neg (by decide), e1, run, if_pos rfl, if_neg (by decide), if_neg (by decide), if_neg h]
theorem parse_0 (c : UInt8) (l : List UInt8) (h1 : c ≠ 120) (h2 : c ≠ 88) : parse (48 :: c :: l) = run (c :: l) 8 0 true := by
  unfold parse
  rw [start_0 (by simp [h1]) (by simp [h2]) rfl]; rfl

/-! What the five calls answer. -/
def Says (d : ByteArray) (v : Int) (m : ByteArray) : Prop :=
  ∀ w, Calls Try.prog 7 #[.string d] w fun e w' => e = .returned (.tuple #[.int .i64 v, .string m]) ∧ ∃ q, w' = w.drewN q

theorem says_of (d : ByteArray) (r : Int × Nat) (hd : d.size ≤ 100000) (h0 : 0 < d.size) (h : parse d.data.toList = r) : Says d r.1 (msg r.2) := by
  intro w
  rw [← h]; exact zz_any d w hd h0

theorem cat_data (a d : ByteArray) : (a ++ d).data.toList = a.data.toList ++ d.data.toList := by simp
theorem cat_size (a d : ByteArray) : (a ++ d).size = a.size + d.size := by simp

structure Five (d : ByteArray) (v : Int) (m : ByteArray) : Prop where
  x : Says (⟨#[48, 120]⟩ ++ d) v m
  y : Says (⟨#[48, 88]⟩ ++ d) v m
  z : Says (⟨#[49, 54, 35]⟩ ++ d) v m

theorem five (d : ByteArray) (hd : d.size ≤ 65536) (h0 : 0 < d.size) : Five d (run d.data.toList 16 0 true).1 (msg (run d.data.toList 16 0 true).2) := by
  have e := list_head d h0
  have hne : d.data.toList ≠ [] := fun h => by rw [h] at e; cases e
  refine ⟨?_, ?_, ?_⟩
  · refine says_of _ _ (by rw [cat_size]; simp only [ByteArray.size]; simp at hd ⊢; omega) (by rw [cat_size]; omega) (by rw [cat_data]; exact parse_0x _)
  · refine says_of _ _ (by rw [cat_size]; simp only [ByteArray.size]; simp at hd ⊢; omega) (by rw [cat_size]; omega) (by rw [cat_data]; exact parse_0X _)
  · refine says_of _ _ (by rw [cat_size]; simp only [ByteArray.size]; simp at hd ⊢; omega) (by rw [cat_size]; omega) (by rw [cat_data]; exact parse_16 _ hne)

theorem eight (d : ByteArray) (hd : d.size ≤ 65536) (h0 : 0 < d.size) (h1 : d[0] ≠ 120) (h2 : d[0] ≠ 88) :
    Says (⟨#[48]⟩ ++ d) (run d.data.toList 8 0 true).1 (msg (run d.data.toList 8 0 true).2) ∧ Says (⟨#[56, 35]⟩ ++ d) (run d.data.toList 8 0 true).1 (msg (run d.data.toList 8 0 true).2) := by
  have e := list_head d h0
  have hne : d.data.toList ≠ [] := fun h => by rw [h] at e; cases e
  refine ⟨?_, ?_⟩
  · refine says_of _ _ (by rw [cat_size]; simp only [ByteArray.size]; simp at hd ⊢; omega) (by rw [cat_size]; omega) ?_
    rw [cat_data, e]; exact parse_0 _ _ h1 h2
  · refine says_of _ _ (by rw [cat_size]; simp only [ByteArray.size]; simp at hd ⊢; omega) (by rw [cat_size]; omega) ?_
    rw [cat_data]; exact parse_8 _ hne

/-! The walk, for whatever the calls answer: 'v' and 'm' at base 16, 'v8' and 'm8' at base 8. -/
theorem all_snoc (d : ByteArray) (k : Nat) (h : k < d.size) : (d.data.toList.take (k + 1)).all hx = ((d.data.toList.take k).all hx && hx d[k]) := by
  rw [List.take_succ_eq_append_getElem (by simpa using h), List.all_append]
  simp only [List.all_cons, List.all_nil, Bool.and_true]
  rfl

set_option maxHeartbeats 1000000 in
set_option maxRecDepth 100000 in
theorem pre_walk (d : ByteArray) (v v8 : Int) (m m8 : ByteArray) (w : World) (hd : d.size ≤ 65536) (h0 : 0 < d.size) (h5 : Five d v m)
    (h8 : d[0] ≠ 120 → d[0] ≠ 88 → Says (⟨#[48]⟩ ++ d) v8 m8 ∧ Says (⟨#[56, 35]⟩ ++ d) v8 m8)
    (hA : m.toList.isEmpty = d.data.toList.all hx) (hB : d.data.toList.all hx = true → bits BinOp.and IntKind.i64 v 15 = dig ((d[d.size - 1]'(by omega)).toNat : Int) 16) :
    Calls Try.prog 4 #[.string d] w fun e w' => e = .returned (.bool true) ∧ ∃ q, w' = w.drewN q := by
  have hz' : ((d.size : Int) == 0) = false := beq_eq_false_iff_ne.2 (by omega)
  have h0' : (0 : Int) < (d.size : Int) := by omega
  have H5 : Hid (Five d v m) := h5
  have H8 : Hid (d[0] ≠ 120 → d[0] ≠ 88 → Says (⟨#[48]⟩ ++ d) v8 m8 ∧ Says (⟨#[56, 35]⟩ ++ d) v8 m8) := h8
  have HA : Hid (m.toList.isEmpty = d.data.toList.all hx) := hA
  have HB : Hid (d.data.toList.all hx = true → bits BinOp.and IntKind.i64 v 15 = dig ((d[d.size - 1]'(by omega)).toNat : Int) 16) := hB
  clear h5 h8 hA hB
  go_enter Try.func4, Try.ntmps4
  go_wp2_with fail
  refine (bytes8_any d _).mono ?_
  rintro e w' ⟨rfl, rfl⟩
  rw [decide_eq_true (show d.size ≤ 1048576 by omega)]
  go_wp2_with fail
  refine (H5.out.x _).mono ?_
  rintro e w1 ⟨rfl, q1, rfl⟩
  go_wp2_with fail
  refine (H5.out.y _).mono ?_
  rintro e w2 ⟨rfl, q2, rfl⟩
  go_wp2_with fail
  refine (H5.out.z _).mono ?_
  rintro e w3 ⟨rfl, q3, hw3⟩
  have HW : Hid (∃ q, w3 = w'.drewN q) := ⟨q1 + q2 + q3, by rw [hw3]; simp only [World.drewN_drewN]⟩
  clear hw3
  go_upto_region 12 with fail
  go_cut [67] (fun t wc => t = .bool (decide (d[0] ≠ 120) && decide (d[0] ≠ 88)) ∧ wc = w3)
  case first =>
    have p1 := byte_120 d[0]
    have p2 := byte_88 d[0]
    by_cases e1 : d[0] = 120
    · rw [decide_eq_true e1] at p1
      have p1n : ((d[0].toNat : Int) != 120) = false := by rw [bne, p1]; rfl
      have E : Hid ((decide (d[0] ≠ 120) && decide (d[0] ≠ 88)) = false) := by
        show (decide (d[0] ≠ 120) && _) = false
        rw [decide_eq_false (by simp [e1])]; rfl
      clear e1 p2
      go_wp2
      go_meet
      case rel => exact ⟨by rw [E.out], rfl⟩
    · rw [decide_eq_false e1] at p1
      have p1n : ((d[0].toNat : Int) != 120) = true := by rw [bne, p1]; rfl
      by_cases e2 : d[0] = 88
      · rw [decide_eq_true e2] at p2
        have p2n : ((d[0].toNat : Int) != 88) = false := by rw [bne, p2]; rfl
        have E : Hid ((decide (d[0] ≠ 120) && decide (d[0] ≠ 88)) = false) := by
          show (_ && decide (d[0] ≠ 88)) = false
          rw [decide_eq_false (show ¬ (d[0] ≠ 88) by simp [e2])]; simp
        clear e1 e2
        go_wp2
        go_meet
        case rel => exact ⟨by rw [E.out], rfl⟩
      · rw [decide_eq_false e2] at p2
        have p2n : ((d[0].toNat : Int) != 88) = true := by rw [bne, p2]; rfl
        have E : Hid ((decide (d[0] ≠ 120) && decide (d[0] ≠ 88)) = true) := by
          show (decide (d[0] ≠ 120) && decide (d[0] ≠ 88)) = true
          rw [decide_eq_true e1, decide_eq_true e2]; rfl
        clear e1 e2
        go_wp2
        go_meet
        case rel => exact ⟨by rw [E.out], rfl⟩
  obtain ⟨rfl, rfl⟩ := hcut
  obtain ⟨wA, rfl⟩ : ∃ x, x = wc := ⟨_, rfl⟩
  go_upto_if 67 with fail
  go_cut [] (fun wc => ∃ q, wc = w'.drewN q)
  case first =>
    cases hc : (decide (d[0] ≠ 120) && decide (d[0] ≠ 88))
    case false =>
      clear hc
      go_wp2
      go_meet
      case rel => exact HW.out
    case true =>
      rw [Bool.and_eq_true, decide_eq_true_eq, decide_eq_true_eq] at hc
      have hs := H8.out hc.1 hc.2
      have H1 : Hid (Says (⟨#[48]⟩ ++ d) v8 m8) := hs.1
      have H2 : Hid (Says (⟨#[56, 35]⟩ ++ d) v8 m8) := hs.2
      clear hs hc
      go_wp2_with fail
      refine (H1.out _).mono ?_
      rintro e w4 ⟨rfl, q4, rfl⟩
      go_wp2_with fail
      refine (H2.out _).mono ?_
      rintro e w5 ⟨rfl, q5, rfl⟩
      go_wp2
      go_meet
      case rel =>
        obtain ⟨q, hq⟩ := HW.out
        exact ⟨q + (q4 + q5), by rw [hq]; simp only [World.drewN_drewN]⟩
  have HC : Hid (∃ q, wc = w'.drewN q) := hcut
  clear hcut HW H5 H8
  go_wp2
  go_loop [13, 14] (fun y i => ∃ k : Nat, k ≤ d.size ∧ i = .int .i64 k ∧ y = .bool ((d.data.toList.take k).all hx)) (fun _ i => d.size - (intOf i).toNat)
  case atStart => exact ⟨0, Nat.zero_le _, rfl, rfl⟩
  case round =>
    obtain ⟨k, hk, rfl, rfl⟩ := hrel
    by_cases hlt : k < d.size
    · have hbb := byte_bd d[k]
      have hsn := all_snoc d k hlt
      generalize hv : (d.data.toList.take k).all hx = B at *
      have HV : Hid ((d.data.toList.take k).all hx = B) := hv
      have HN : Hid ((d.data.toList.take (k + 1)).all hx = (B && hx d[k])) := hsn
      clear hv hsn
      cases hh : hex (d[k].toNat : Int)
      · have HH : Hid (hex (d[k].toNat : Int) = false) := hh
        clear hh
        go_wp2_with fail
        refine (hex_any _ _ (by omega) (by omega)).mono ?_
        rintro e w6 ⟨rfl, rfl⟩
        rw [HH.out]
        go_wp2
        go_round
        case rel => exact ⟨k + 1, by omega, by go_num, by rw [HN.out, show hx d[k] = false from HH.out, Bool.and_false]⟩
        case measure => simp [intOf]; omega
      · have HH : Hid (hex (d[k].toNat : Int) = true) := hh
        clear hh
        go_wp2_with fail
        refine (hex_any _ _ (by omega) (by omega)).mono ?_
        rintro e w6 ⟨rfl, rfl⟩
        rw [HH.out]
        go_wp2
        go_round
        case rel => exact ⟨k + 1, by omega, by go_num, by rw [HN.out, show hx d[k] = true from HH.out, Bool.and_true]⟩
        case measure => simp [intOf]; omega
    · rw [List.take_of_length_le (by simp; omega)]
      cases hall : d.data.toList.all hx
      · have HM : m.toList.isEmpty = false := HA.out.trans hall
        clear hall
        go_wp2
        go_ret
        exact ⟨rfl, HC.out⟩
      · have HM : m.toList.isEmpty = true := HA.out.trans hall
        have HV := HB.out hall
        have hbb := byte_bd (d[d.size - 1]'(by omega))
        have h1' : (1 : Int) ≤ (d.size : Int) := by omega
        have HV' : (bits BinOp.and IntKind.i64 v 15 != dig ((d[d.size - 1]'(by omega)).toNat : Int) 16) = false := by rw [HV]; simp
        clear hall HV
        go_wp2_with fail
        refine (zdigit_any _ _ _ (by omega) (by omega)).mono ?_
        rintro e w6 ⟨rfl, rfl⟩
        go_wp2
        go_ret
        exact ⟨rfl, HC.out⟩

theorem pre_any (d : ByteArray) (w : World) :
    Calls Try.prog 4 #[.string d] w fun e w' => e = .returned (.bool true) ∧ ∃ q, w' = w.drewN q := by
  by_cases hd : d.size ≤ 65536
  · by_cases h0 : 0 < d.size
    · refine pre_walk d _ _ _ _ w hd h0 (five d hd h0) (eight d hd h0) ?_ ?_
      · cases hall : d.data.toList.all hx
        · rcases run_nohex d.data.toList 0 hall with h | h <;> rw [h, toList_eq] <;> rfl
        · have h := run_hex d.data.toList 0 hall
          rw [wrap64_zero] at h
          rw [h, toList_eq]; rfl
      · intro hall
        have h := run_hex d.data.toList 0 hall
        rw [wrap64_zero] at h
        rw [h, and15, wrap64_mod]
        have hlast : d.data.toList = d.data.toList.take (d.size - 1) ++ [d[d.size - 1]'(by omega)] := by
          have e1 := List.take_succ_eq_append_getElem (l := d.data.toList) (i := d.size - 1) (by simp; omega)
          rw [show d.size - 1 + 1 = d.size by omega, List.take_of_length_le (by simp)] at e1
          exact e1
        have hlt : dg (d[d.size - 1]'(by omega)) 16 < 16 := by
          have h2 : hx (d[d.size - 1]'(by omega)) = true := by
            rw [hlast, List.all_append, Bool.and_eq_true] at hall
            simpa using hall.2
          rw [hx_dg, decide_eq_true_eq] at h2; exact h2
        have hge := (dig_bd ((d[d.size - 1]'(by omega)).toNat : Int) 16).1
        rw [hlast, hv_mod]
        unfold dg at hlt ⊢
        exact Int.emod_eq_of_lt hge hlt
    · have hz' : ((d.size : Int) == 0) = true := beq_iff_eq.2 (by omega)
      go_enter Try.func4, Try.ntmps4
      go_wp2_with fail
      refine (bytes8_any d _).mono ?_
      rintro e w' ⟨rfl, rfl⟩
      rw [decide_eq_true (show d.size ≤ 1048576 by omega)]
      go_wp2
      go_ret
      exact ⟨rfl, 0, rfl⟩
  · go_enter Try.func4, Try.ntmps4
    go_wp2_with fail
    refine (bytes8_any d _).mono ?_
    rintro e w' ⟨rfl, rfl⟩
    cases hv : decide (d.size ≤ 1048576)
    · clear hv
      go_wp2
      go_ret
      exact ⟨rfl, 0, rfl⟩
    · clear hv
      go_wp2
      go_ret
      exact ⟨rfl, 0, rfl⟩
end Go.Proofs.Qxb6629996a
