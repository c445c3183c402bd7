import Derived.Test.Qxb6629996aLeaf
import Derived.Deep.CutBlock
namespace Go.Proofs.Qxb6629996a
open Go.ChangeShapes Go.WideShapes Go.ChangeAt Go.RowKit
set_option linter.unusedVariables false

/-- The messages, by their numbers. -/
def msg : Nat → ByteArray
  | 1 => ⟨#[105, 110, 118, 97, 108, 105, 100, 32, 110, 117, 109, 98, 101, 114]⟩
  | 2 => ⟨#[105, 110, 118, 97, 108, 105, 100, 32, 97, 114, 105, 116, 104, 109, 101, 116, 105, 99, 32, 98, 97, 115, 101]⟩
  | 3 => ⟨#[105, 110, 118, 97, 108, 105, 100, 32, 105, 110, 116, 101, 103, 101, 114, 32, 99, 111, 110, 115, 116, 97, 110, 116]⟩
  | 4 => ⟨#[118, 97, 108, 117, 101, 32, 116, 111, 111, 32, 103, 114, 101, 97, 116, 32, 102, 111, 114, 32, 98, 97, 115, 101]⟩
  | _ => ⟨#[]⟩

/-- The ending that says the answer 'r'. -/
def Ans (r : Int × Nat) : Ending := .returned (.tuple #[.int .i64 r.1, .string (msg r.2)])

theorem start_x {l : List UInt8} (h : (l.take 2 == [48, 120]) = true) : start l = (16, l.drop 2, true) := by
  match l with
  | [] => simp at h
  | [_] => simp at h
  | a :: b :: r =>
    simp only [List.take_succ_cons, List.take_zero, beq_iff_eq, List.cons.injEq, and_true] at h
    obtain ⟨rfl, rfl⟩ := h
    rfl
theorem start_X {l : List UInt8} (h : (l.take 2 == [48, 88]) = true) : start l = (16, l.drop 2, true) := by
  match l with
  | [] => simp at h
  | [_] => simp at h
  | a :: b :: r =>
    simp only [List.take_succ_cons, List.take_zero, beq_iff_eq, List.cons.injEq, and_true] at h
    obtain ⟨rfl, rfl⟩ := h
    rfl
theorem start_0 {l r : List UInt8} (h1 : (l.take 2 == [48, 120]) = false) (h2 : (l.take 2 == [48, 88]) = false) (hl : l = 48 :: r) : start l = (8, l.drop 1, true) := by
  subst hl
  unfold start
  split
  · rename_i e; rw [e] at h1; simp at h1
  · rename_i e; rw [e] at h2; simp at h2
  · rename_i e; simp only [List.cons.injEq, true_and] at e; subst e; rfl
  · rename_i e; exact absurd rfl (e r)
theorem start_d {l r : List UInt8} {c : UInt8} (hc : c ≠ 48) (hl : l = c :: r) : start l = (10, l, false) := by
  subst hl
  unfold start
  split
  · rename_i e; simp only [List.cons.injEq] at e; exact absurd e.1 hc
  · rename_i e; simp only [List.cons.injEq] at e; exact absurd e.1 hc
  · rename_i e; simp only [List.cons.injEq] at e; exact absurd e.1 hc
  · rfl

theorem pfx_is (d : ByteArray) (x y : UInt8) (v : Bool) (w : World) (hv : (d.data.toList.take 2 == [x, y]) = v) :
    Calls Try.prog 15 #[.string d, .string ⟨#[x, y]⟩] w fun e w' => e = .returned (.bool v) ∧ w' = w := by
  rw [← hv]; exact pfx_any d x y w

theorem byte_is (c : UInt8) (n : Nat) (hn : n < 256) : ((c.toNat : Int) == (n : Int)) = decide (c = UInt8.ofNat n) := by
  rw [Bool.eq_iff_iff, beq_iff_eq, decide_eq_true_eq]
  constructor
  · intro h; apply UInt8.toNat_inj.1; rw [UInt8.toNat_ofNat']; omega
  · rintro rfl; rw [UInt8.toNat_ofNat']; omega
theorem byte_48 (c : UInt8) : ((c.toNat : Int) == 48) = decide (c = 48) := byte_is c 48 (by omega)

theorem list_head (d : ByteArray) (h0 : 0 < d.size) : d.data.toList = d[0] :: d.data.toList.drop 1 := by
  have := drop_byte d 0 h0
  simpa using this

theorem drop_data (d : ByteArray) (k : Nat) : (d.extract k d.size).data.toList = d.data.toList.drop k := Lib.extract_to_end d k

set_option maxHeartbeats 800000 in
set_option maxRecDepth 100000 in
theorem parse_any (d : ByteArray) (w : World) (hd : d.size ≤ 100000) (h0 : 0 < d.size) :
    Calls Try.prog 14 #[.string d] w fun e w' => e = Ans (parse d.data.toList) ∧ ∃ q, w' = w.drewN q := by
  generalize hRES : parse d.data.toList = RES
  have HRES : Hid (parse d.data.toList = RES) := hRES
  clear hRES
  go_enter Try.func14, Try.ntmps14
  go_upto_block 0 with fail
  go_cut [4, 5] (fun b s wc => ∃ (D : ByteArray), s = .string D ∧ b = .int .i64 (start d.data.toList).1 ∧ D.data.toList = (start d.data.toList).2.1 ∧ (((start d.data.toList).1 != 10) = (start d.data.toList).2.2) ∧ D.size ≤ d.size ∧ ∃ q, wc = w.drewN q)
  case first =>
    cases hx : (d.data.toList.take 2 == [48, 120])
    case true =>
      have hs := start_x hx
      have h2 : 2 ≤ d.size := by
        rw [beq_iff_eq] at hx
        have := congrArg List.length hx
        simp at this; omega
      have HS : Hid (start d.data.toList = (16, d.data.toList.drop 2, true)) := hs
      have HX : Hid ((d.data.toList.take 2 == [48, 120]) = true) := hx
      have h2' : (2 : Int) ≤ (d.size : Int) := by omega
      clear hs hx
      go_wp2_with fail
      refine (pfx_is _ _ _ true _ HX.out).mono ?_
      rintro e w' ⟨rfl, rfl⟩
      go_wp2
      go_quiet (fail)
      go_wp2
      go_meet
      case rel => exact ⟨_, rfl, by rw [HS.out], by rw [HS.out, drop_data], by rw [HS.out]; rfl, by simp, _, rfl⟩
    case false =>
      have HX : Hid ((d.data.toList.take 2 == [48, 120]) = false) := hx
      clear hx
      cases hy : (d.data.toList.take 2 == [48, 88])
      case true =>
        have hs := start_X hy
        have h2 : 2 ≤ d.size := by
          rw [beq_iff_eq] at hy
          have := congrArg List.length hy
          simp at this; omega
        have HS : Hid (start d.data.toList = (16, d.data.toList.drop 2, true)) := hs
        have HY : Hid ((d.data.toList.take 2 == [48, 88]) = true) := hy
        have h2' : (2 : Int) ≤ (d.size : Int) := by omega
        clear hs hy
        go_wp2_with fail
        refine (pfx_is _ _ _ false _ HX.out).mono ?_
        rintro e w' ⟨rfl, rfl⟩
        go_wp2_with fail
        refine (pfx_is _ _ _ true _ HY.out).mono ?_
        rintro e w' ⟨rfl, rfl⟩
        go_wp2
        go_quiet (fail)
        go_wp2
        go_meet
        case rel => exact ⟨_, rfl, by rw [HS.out], by rw [HS.out, drop_data], by rw [HS.out]; rfl, by simp, _, rfl⟩
      case false =>
        have HY : Hid ((d.data.toList.take 2 == [48, 88]) = false) := hy
        clear hy
        have hq := byte_48 d[0]
        by_cases e0 : d[0] = 48
        · rw [decide_eq_true e0] at hq
          have hs := start_0 HX.out HY.out (by rw [list_head d h0, e0])
          have HS : Hid (start d.data.toList = (8, d.data.toList.drop 1, true)) := hs
          have h1' : (1 : Int) ≤ (d.size : Int) := by omega
          have h0' : (0 : Int) < (d.size : Int) := by omega
          clear hs e0
          go_wp2_with fail
          refine (pfx_is _ _ _ false _ HX.out).mono ?_
          rintro e w' ⟨rfl, rfl⟩
          go_wp2_with fail
          refine (pfx_is _ _ _ false _ HY.out).mono ?_
          rintro e w' ⟨rfl, rfl⟩
          go_wp2
          go_quiet (fail)
          go_wp2
          go_meet
          case rel => exact ⟨_, rfl, by rw [HS.out], by rw [HS.out, drop_data], by rw [HS.out]; rfl, by simp, _, rfl⟩
        · rw [decide_eq_false e0] at hq
          have hs := start_d e0 (list_head d h0)
          have HS : Hid (start d.data.toList = (10, d.data.toList, false)) := hs
          have h0' : (0 : Int) < (d.size : Int) := by omega
          clear hs e0
          go_wp2_with fail
          refine (pfx_is _ _ _ false _ HX.out).mono ?_
          rintro e w' ⟨rfl, rfl⟩
          go_wp2_with fail
          refine (pfx_is _ _ _ false _ HY.out).mono ?_
          rintro e w' ⟨rfl, rfl⟩
          go_wp2
          go_meet
          case rel => exact ⟨_, rfl, by rw [HS.out], by rw [HS.out], by rw [HS.out]; rfl, by simp, 0, rfl⟩
  case rest =>
    obtain ⟨D, rfl, rfl, hD, hb, hsz, q, hq⟩ := hcut
    have HQ : Hid (wc = w.drewN q) := hq
    have HR : Hid (run D.data.toList (start d.data.toList).1 0 (start d.data.toList).2.2 = RES) := by
      rw [hD]; exact HRES.out
    clear hD hq HRES
    generalize (start d.data.toList).1 = b at *
    generalize (start d.data.toList).2.2 = bd at *
    have hDz : D.size ≤ 100000 := by omega
    go_wp2
    clear hb
    go_loop [4, 6, 7, 8] (fun x y z i => ∃ (k : Nat) (b n : Int) (bd : Bool), k ≤ D.size ∧ i = .int .i64 k ∧ x = .int .i64 b ∧ y = .int .i64 n ∧ z = .bool bd ∧ run (D.data.toList.drop k) b n bd = RES) (fun _ _ _ i => D.size - (intOf i).toNat)
    case atStart => exact ⟨0, b, 0, bd, Nat.zero_le _, rfl, rfl, rfl, rfl, HR.out⟩
    case round =>
      clear HR
      obtain ⟨k, b, n, bd, hk, rfl, rfl, rfl, rfl, hr⟩ := hrel
      have HR : Hid (run (D.data.toList.drop k) b n bd = RES) := hr
      clear hr
      by_cases hlt : k < D.size
      · have hbb := byte_bd D[k]
        have hq := byte_35 D[k]
        have hst : run (D.data.toList.drop k) b n bd = run (D[k] :: D.data.toList.drop (k + 1)) b n bd := by rw [drop_byte D k hlt]
        by_cases e35 : D[k] = 35
        · rw [decide_eq_true e35] at hq
          rw [run, if_pos e35] at hst
          cases bd
          case true =>
            rw [if_pos rfl] at hst
            have HE : Hid (RES = (0, 1)) := HR.out.symm.trans hst
            clear hst e35 HR
            go_wp2
            go_ret2
            exact ⟨by rw [HE.out]; rfl, _, HQ.out⟩
          case false =>
            simp only [Bool.false_eq_true, if_false] at hst
            by_cases hn1 : n < 2
            · rw [if_pos (.inl hn1)] at hst
              have HE : Hid (RES = (0, 2)) := HR.out.symm.trans hst
              clear hst e35 HR
              go_wp2
              go_ret2
              exact ⟨by rw [HE.out]; rfl, _, HQ.out⟩
            · by_cases hn2 : 64 < n
              · rw [if_pos (.inr hn2)] at hst
                have HE : Hid (RES = (0, 2)) := HR.out.symm.trans hst
                clear hst e35 HR
                go_wp2
                go_ret2
                exact ⟨by rw [HE.out]; rfl, _, HQ.out⟩
              · rw [if_neg (by omega)] at hst
                by_cases hl : k + 1 = D.size
                · rw [if_pos (List.drop_of_length_le (by simp; omega))] at hst
                  have HE : Hid (RES = (0, 3)) := HR.out.symm.trans hst
                  have hl' : ((k : Int) == (D.size : Int) - 1) = true := by simp; omega
                  clear hst e35 HR hl
                  go_wp2
                  go_ret2
                  exact ⟨by rw [HE.out]; rfl, _, HQ.out⟩
                · rw [if_neg (by rw [List.drop_eq_nil_iff]; simp; omega)] at hst
                  have HE : Hid (run (D.data.toList.drop (k + 1)) n 0 true = RES) := hst.symm.trans HR.out
                  have hl' : ((k : Int) == (D.size : Int) - 1) = false := by simp; omega
                  clear hst e35 HR
                  go_wp2
                  go_round
                  case rel => exact ⟨k + 1, n, 0, true, by omega, by go_num, rfl, rfl, rfl, HE.out⟩
                  case measure => simp [intOf]; omega
        · rw [decide_eq_false e35] at hq
          rw [run, if_neg e35] at hst
          unfold dg at hst
          by_cases hdg : b ≤ dig (D[k].toNat : Int) b
          · rw [if_pos hdg] at hst
            have HE : Hid (RES = (0, 4)) := HR.out.symm.trans hst
            clear hst e35 HR
            go_wp2_with fail
            refine (digit_any _ _ _ (by omega) (by omega)).mono ?_
            rintro e w' ⟨rfl, rfl⟩
            go_wp2
            go_ret2
            exact ⟨by rw [HE.out]; rfl, _, HQ.out⟩
          · rw [if_neg hdg] at hst
            have HE : Hid (run (D.data.toList.drop (k + 1)) b (wrap64 (wrap64 (n * b) + dig (D[k].toNat : Int) b)) bd = RES) := hst.symm.trans HR.out
            clear hst e35 HR
            go_wp2_with fail
            refine (digit_any _ _ _ (by omega) (by omega)).mono ?_
            rintro e w' ⟨rfl, rfl⟩
            go_wp2
            go_round
            case rel => exact ⟨k + 1, b, _, bd, by omega, by go_num, rfl, rfl, rfl, HE.out⟩
            case measure => simp [intOf]; omega
      · have HE : Hid (RES = (n, 0)) := by
          rw [← HR.out, List.drop_of_length_le (by simp; omega)]; rfl
        clear HR
        go_wp2
        go_ret2
        exact ⟨by rw [HE.out]; rfl, _, HQ.out⟩
end Go.Proofs.Qxb6629996a
