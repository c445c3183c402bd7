import Derived.Test.Qxb6629996aParse
namespace Go.Proofs.Qxb6629996a
open Go.ChangeShapes Go.WideShapes Go.ChangeAt Go.RowKit
set_option linter.unusedVariables false

theorem zz_any (d : ByteArray) (w : World) (hd : d.size ≤ 100000) (h0 : 0 < d.size) :
    Calls Try.prog 7 #[.string d] w fun e w' => e = Ans (parse d.data.toList) ∧ ∃ q, w' = w.drewN q := by
  have hp := parse_any d w hd h0
  generalize parse d.data.toList = r at *
  have HP : Hid (Calls Try.prog 14 #[.string d] w fun e w' => e = Ans r ∧ ∃ q, w' = w.drewN q) := hp
  clear hp
  unfold Ans at *
  go_enter Try.func7, Try.ntmps7
  go_wp2_with fail
  refine HP.out.mono ?_
  rintro e w' ⟨rfl, q, rfl⟩
  go_wp2
  go_ret2
  exact ⟨rfl, _, rfl⟩

/-- Is it '0x..' or '0X..'? -/
def hexy (l : List UInt8) : Bool := l.take 2 == [48, 120] || l.take 2 == [48, 88]

theorem byte_120 (c : UInt8) : ((c.toNat : Int) == 120) = decide (c = 120) := byte_is c 120 (by omega)
theorem byte_88 (c : UInt8) : ((c.toNat : Int) == 88) = decide (c = 88) := byte_is c 88 (by omega)

theorem take2 (d : ByteArray) (h : 1 < d.size) : d.data.toList.take 2 = [d[0], d[1]] := by
  have h0 := drop_byte d 0 (by omega)
  have h1 := drop_byte d 1 h
  rw [List.drop_zero] at h0
  rw [h0, h1]; rfl

theorem hexy_short (d : ByteArray) (h : ¬ 1 < d.size) : hexy d.data.toList = false := by
  have hl : (d.data.toList.take 2).length < 2 := by simp; omega
  unfold hexy
  rw [Bool.or_eq_false_iff, beq_eq_false_iff_ne, beq_eq_false_iff_ne]
  refine ⟨fun e => ?_, fun e => ?_⟩ <;> · rw [e] at hl; simp at hl

theorem start_hexy {l : List UInt8} (h : hexy l = true) : start l = (16, l.drop 2, true) := by
  unfold hexy at h
  rcases Bool.or_eq_true_iff.1 h with h | h
  · exact start_x h
  · exact start_X h

/-! The ways through the segments. -/
section
variable {ds t u : List UInt8} {b nb : Int} {bd : Bool}
theorem seg_n1 (h : (brk ds).2 = none) (v : valid ds b = true) : seg ds b bd = (val ds b, 0) := by simp [seg, h, v]
theorem seg_n0 (h : (brk ds).2 = none) (v : valid ds b = false) : seg ds b bd = (0, 4) := by simp [seg, h, v]
theorem seg_s0 (h : (brk ds).2 = some t) (v : valid (brk ds).1 b = false) : seg ds b bd = (0, 4) := by simp [seg, h, v]
theorem seg_sb (h : (brk ds).2 = some t) (v : valid (brk ds).1 b = true) : seg ds b true = (0, 1) := by simp [seg, h, v]
theorem seg_sn (h : (brk ds).2 = some t) (v : valid (brk ds).1 b = true) (hn : val (brk ds).1 10 < 2 ∨ 64 < val (brk ds).1 10) : seg ds b false = (0, 2) := by
  unfold seg
  simp only [h, v, if_true, Bool.false_eq_true, if_false]
  rw [if_pos hn]
theorem seg_st (h : (brk ds).2 = some t) (v : valid (brk ds).1 b = true) (hn : ¬ (val (brk ds).1 10 < 2 ∨ 64 < val (brk ds).1 10)) (ht : t = []) : seg ds b false = (0, 3) := by
  unfold seg
  simp only [h, v, if_true, Bool.false_eq_true, if_false]
  rw [if_neg hn, if_pos ht]
theorem seg_t (h : (brk ds).2 = some t) (v : valid (brk ds).1 b = true) (hn : ¬ (val (brk ds).1 10 < 2 ∨ 64 < val (brk ds).1 10)) (ht : t ≠ []) (hnb : val (brk ds).1 10 = nb) :
    seg ds b false = match (brk t).2 with
        | none => if valid t nb = true then (val t nb, 0) else (0, 4)
        | some _ => if valid (brk t).1 nb = true then (0, 1) else (0, 4) := by
  unfold seg
  simp only [h, v, if_true, Bool.false_eq_true, if_false]
  rw [if_neg hn, if_neg ht, hnb]
  cases (brk t).2 <;> rfl
end

theorem brk_facts {D : ByteArray} {t : List UInt8} (h : (brk D.data.toList).2 = some t) :
    (brk D.data.toList).1.length < D.size ∧ (D.extract 0 (brk D.data.toList).1.length).data.toList = (brk D.data.toList).1 ∧
    (D.extract ((brk D.data.toList).1.length + 1) D.size).data.toList = t ∧ t.length + ((brk D.data.toList).1.length + 1) = D.size := by
  have e := brk_some _ _ h
  have hl := congrArg List.length e
  simp only [List.length_append, List.length_cons, Array.length_toList] at hl
  have hs : D.data.size = D.size := rfl
  have hlt : (brk D.data.toList).1.length < D.size := by omega
  have hsum : t.length + ((brk D.data.toList).1.length + 1) = D.size := by omega
  clear hl h
  rw [Lib.extract_data, List.drop_zero, Nat.sub_zero, drop_data]
  generalize (brk D.data.toList).1 = p at *
  refine ⟨hlt, ?_, ?_, hsum⟩
  · rw [e]; simp
  · rw [e]; simp

theorem valid_is (d : ByteArray) (l : List UInt8) (base : Int) (v : Bool) (w : World) (hd : d.size ≤ 100000) (hl : d.data.toList = l) (hv : valid l base = v) :
    Calls Try.prog 12 #[.string d, .int .i64 base] w fun e w' => e = .returned (.bool v) ∧ w' = w := by
  rw [← hv, ← hl]; exact valid_any d base w hd
theorem value_is (d : ByteArray) (l : List UInt8) (base r : Int) (w : World) (hd : d.size ≤ 100000) (hl : d.data.toList = l) (hv : val l base = r) :
    Calls Try.prog 13 #[.string d, .int .i64 base] w fun e w' => e = .returned (.int .i64 r) ∧ w' = w := by
  rw [← hv, ← hl]; exact value_any d base w hd
theorem hash_no (d : ByteArray) (w : World) (hd : d.size ≤ 100000) (h : (brk d.data.toList).2 = none) :
    Calls Try.prog 11 #[.string d] w fun e w' => e = .returned (.int .i64 (-1)) ∧ w' = w := by
  have := hash_any d w hd
  rw [h] at this; exact this
theorem hash_yes (d : ByteArray) (t : List UInt8) (P : Nat) (w : World) (hd : d.size ≤ 100000) (h : (brk d.data.toList).2 = some t) (hP : (brk d.data.toList).1.length = P) :
    Calls Try.prog 11 #[.string d] w fun e w' => e = .returned (.int .i64 P) ∧ w' = w := by
  have := hash_any d w hd
  rw [h, hP] at this; exact this

set_option maxHeartbeats 1000000 in
set_option maxRecDepth 100000 in
theorem model_any (d : ByteArray) (w : World) (hd : d.size ≤ 100000) (h0 : 0 < d.size) :
    Calls Try.prog 6 #[.string d] w fun e w' => e = Ans (model d.data.toList) ∧ w' = w := by
  generalize hRES : model d.data.toList = RES
  have HRES : Hid (model d.data.toList = RES) := hRES
  clear hRES
  have h0' : (0 : Int) < (d.size : Int) := by omega
  go_enter Try.func6, Try.ntmps6
  go_upto_region 4 with fail
  go_cut [29] (fun t wc => t = .bool (hexy d.data.toList) ∧ wc = w)
  case first =>
    by_cases h1 : 1 < d.size
    · have ht := take2 d h1
      have HT : Hid (d.data.toList.take 2 = [d[0], d[1]]) := ht
      clear ht
      have q0 := byte_48 d[0]
      have q1 := byte_120 d[1]
      have q2 := byte_88 d[1]
      have h1' : (1 : Int) < (d.size : Int) := by omega
      have h2' : (2 : Int) ≤ (d.size : Int) := by omega
      by_cases e0 : d[0] = 48
      · rw [decide_eq_true e0] at q0
        by_cases e1 : d[1] = 120
        · rw [decide_eq_true e1] at q1
          have HH : Hid (hexy d.data.toList = true) := by show hexy _ = _; unfold hexy; rw [HT.out, e0, e1]; rfl
          clear e0 e1 q2 HT
          go_wp2
          go_meet
          case rel => exact ⟨by rw [HH.out], rfl⟩
        · rw [decide_eq_false e1] at q1
          by_cases e2 : d[1] = 88
          · rw [decide_eq_true e2] at q2
            have HH : Hid (hexy d.data.toList = true) := by show hexy _ = _; unfold hexy; rw [HT.out, e0, e2]; rfl
            clear e0 e1 e2 HT
            go_wp2
            go_meet
            case rel => exact ⟨by rw [HH.out], rfl⟩
          · rw [decide_eq_false e2] at q2
            have HH : Hid (hexy d.data.toList = false) := by show hexy _ = _; unfold hexy; rw [HT.out]; simp [e1, e2]
            clear e0 e1 e2 HT
            go_wp2
            go_meet
            case rel => exact ⟨by rw [HH.out], rfl⟩
      · rw [decide_eq_false e0] at q0
        have HH : Hid (hexy d.data.toList = false) := by show hexy _ = _; unfold hexy; rw [HT.out]; simp [e0]
        clear e0 q1 q2 HT
        go_wp2
        go_meet
        case rel => exact ⟨by rw [HH.out], rfl⟩
    · have HH : Hid (hexy d.data.toList = false) := hexy_short d h1
      go_wp2
      go_meet
      case rel => exact ⟨by rw [HH.out], rfl⟩
  obtain ⟨rfl, rfl⟩ := hcut
  go_upto_if 29 with fail
  go_cut [4, 5, 6] (fun x y z wd => ∃ (D : ByteArray), y = .string D ∧ x = .int .i64 (start d.data.toList).1 ∧ z = .bool (start d.data.toList).2.2 ∧ D.data.toList = (start d.data.toList).2.1 ∧ D.size ≤ d.size ∧ wd = wc)
  case first =>
    cases hx : hexy d.data.toList
    case true =>
      have HS : Hid (start d.data.toList = (16, d.data.toList.drop 2, true)) := start_hexy hx
      have h2' : (2 : Int) ≤ (d.size : Int) := by
        have : 1 < d.size := by
          refine Classical.byContradiction fun h => ?_
          rw [hexy_short d h] at hx; cases hx
        omega
      clear hx
      go_wp2
      go_meet
      case rel => exact ⟨_, rfl, by rw [HS.out], by rw [HS.out], by rw [HS.out, drop_data], by simp, rfl⟩
    case false =>
      have q0 := byte_48 d[0]
      by_cases e0 : d[0] = 48
      · rw [decide_eq_true e0] at q0
        have HS : Hid (start d.data.toList = (8, d.data.toList.drop 1, true)) := by
          unfold hexy at hx
          rw [Bool.or_eq_false_iff] at hx
          exact start_0 hx.1 hx.2 (by rw [list_head d h0, e0])
        have h1' : (1 : Int) ≤ (d.size : Int) := by omega
        clear hx e0
        go_wp2
        go_meet
        case rel => exact ⟨_, rfl, by rw [HS.out], by rw [HS.out], by rw [HS.out, drop_data], by simp, rfl⟩
      · rw [decide_eq_false e0] at q0
        have HS : Hid (start d.data.toList = (10, d.data.toList, false)) := start_d e0 (list_head d h0)
        clear hx e0
        go_wp2
        go_meet
        case rel => exact ⟨_, rfl, by rw [HS.out], by rw [HS.out], by rw [HS.out], by simp, rfl⟩
  obtain ⟨D, rfl, rfl, rfl, hD, hsz, hwd⟩ := hcut
  have HR : Hid (seg D.data.toList (start d.data.toList).1 (start d.data.toList).2.2 = RES) := by
    rw [hD]; exact HRES.out
  clear hD HRES
  generalize (start d.data.toList).1 = b at *
  generalize (start d.data.toList).2.2 = bd at *
  have hDz : D.size ≤ 100000 := by omega
  subst hwd
  cases hb1 : (brk D.data.toList).2 with
  | none =>
    have HB : Hid ((brk D.data.toList).2 = none) := hb1
    clear hb1
    go_wp2_with fail
    refine (hash_no D _ hDz HB.out).mono ?_
    rintro e w' ⟨rfl, rfl⟩
    cases hv : valid D.data.toList b
    case false =>
      have HV : Hid (valid D.data.toList b = false) := hv
      have HE : Hid (RES = (0, 4)) := HR.out.symm.trans (seg_n0 HB.out hv)
      clear hv
      go_wp2_with fail
      refine (valid_is D _ b false _ hDz rfl HV.out).mono ?_
      rintro e w' ⟨rfl, rfl⟩
      go_wp2
      go_ret2
      exact ⟨by rw [HE.out]; rfl, rfl⟩
    case true =>
      have HV : Hid (valid D.data.toList b = true) := hv
      have HE : Hid (RES = (val D.data.toList b, 0)) := HR.out.symm.trans (seg_n1 HB.out hv)
      clear hv
      go_wp2_with fail
      refine (valid_is D _ b true _ hDz rfl HV.out).mono ?_
      rintro e w' ⟨rfl, rfl⟩
      go_wp2_with fail
      refine (value_any D b _ hDz).mono ?_
      rintro e w' ⟨rfl, rfl⟩
      go_wp2
      go_ret2
      exact ⟨by rw [HE.out]; rfl, rfl⟩
  | some t =>
    obtain ⟨f1, f2, f3, f4⟩ := brk_facts hb1
    have HB : Hid ((brk D.data.toList).2 = some t) := hb1
    obtain ⟨P, hP⟩ : ∃ P, (brk D.data.toList).1.length = P := ⟨_, rfl⟩
    have HP : Hid ((brk D.data.toList).1.length = P) := hP
    obtain ⟨pre, hpre⟩ : ∃ pre, (brk D.data.toList).1 = pre := ⟨_, rfl⟩
    have HPRE : Hid ((brk D.data.toList).1 = pre) := hpre
    rw [hP] at f1 f2 f3 f4
    rw [hpre] at f2
    have F2 : Hid ((D.extract 0 P).data.toList = pre) := f2
    have F3 : Hid ((D.extract (P + 1) D.size).data.toList = t) := f3
    have F4 : Hid (t.length + (P + 1) = D.size) := f4
    have s1 : (D.extract 0 P).size ≤ 100000 := by simp; omega
    have s2 : (D.extract (P + 1) D.size).size ≤ 100000 := by simp; omega
    clear hb1 hP hpre f2 f3 f4
    go_wp2_with fail
    refine (hash_yes D t P _ hDz HB.out HP.out).mono ?_
    rintro e w' ⟨rfl, rfl⟩
    cases hv : valid pre b
    case false =>
      have HV : Hid (valid pre b = false) := hv
      have HE : Hid (RES = (0, 4)) := HR.out.symm.trans (seg_s0 HB.out (by rw [HPRE.out]; exact hv))
      clear hv
      go_wp2_with fail
      refine (valid_is _ pre b false _ s1 F2.out HV.out).mono ?_
      rintro e w' ⟨rfl, rfl⟩
      go_wp2
      go_ret2
      exact ⟨by rw [HE.out]; rfl, rfl⟩
    have HV : Hid (valid pre b = true) := hv
    have HV' : Hid (valid (brk D.data.toList).1 b = true) := by rw [HPRE.out]; exact hv
    clear hv
    go_wp2_with fail
    refine (valid_is _ pre b true _ s1 F2.out HV.out).mono ?_
    rintro e w' ⟨rfl, rfl⟩
    cases bd
    case true =>
      have HE : Hid (RES = (0, 1)) := HR.out.symm.trans (seg_sb HB.out HV'.out)
      go_wp2
      go_ret2
      exact ⟨by rw [HE.out]; rfl, rfl⟩
    obtain ⟨nb, hnb⟩ : ∃ nb, val (brk D.data.toList).1 10 = nb := ⟨_, rfl⟩
    have HNB : Hid (val (brk D.data.toList).1 10 = nb) := hnb
    have HNB' : Hid (val pre 10 = nb) := by rw [← HPRE.out]; exact hnb
    clear hnb
    go_wp2_with fail
    refine (value_is _ pre 10 nb _ s1 F2.out HNB'.out).mono ?_
    rintro e w' ⟨rfl, rfl⟩
    by_cases n1 : nb < 2
    · have HE : Hid (RES = (0, 2)) := HR.out.symm.trans (seg_sn HB.out HV'.out (by rw [HNB.out]; exact .inl n1))
      go_wp2
      go_ret2
      exact ⟨by rw [HE.out]; rfl, rfl⟩
    by_cases n2 : 64 < nb
    · have HE : Hid (RES = (0, 2)) := HR.out.symm.trans (seg_sn HB.out HV'.out (by rw [HNB.out]; exact .inr n2))
      go_wp2
      go_ret2
      exact ⟨by rw [HE.out]; rfl, rfl⟩
    have n3 : ¬ (val (brk D.data.toList).1 10 < 2 ∨ 64 < val (brk D.data.toList).1 10) := by rw [HNB.out]; omega
    have N3 : Hid (¬ (val (brk D.data.toList).1 10 < 2 ∨ 64 < val (brk D.data.toList).1 10)) := n3
    clear n3
    by_cases ht : t = []
    · have HE : Hid (RES = (0, 3)) := HR.out.symm.trans (seg_st HB.out HV'.out N3.out ht)
      have hl : P + 1 = D.size := by have := F4.out; rw [ht] at this; simpa using this
      clear ht
      have hl1 : (P : Int) + 1 ≤ (D.size : Int) := by omega
      have hl2 : D.size - (P + 1) = 0 := by omega
      go_wp2
      go_ret2
      exact ⟨by rw [HE.out]; rfl, rfl⟩
    have HE0 := HR.out.symm.trans (seg_t HB.out HV'.out N3.out ht HNB.out)
    have hl : P + 1 < D.size := by
      have := F4.out
      have : 0 < t.length := List.length_pos_iff.2 ht
      omega
    have hl1 : (P : Int) + 1 ≤ (D.size : Int) := by omega
    have hl3 : (((D.size - (P + 1) : Nat) : Int) == 0) = false := by simp; omega
    have E0 : Hid (RES = match (brk t).2 with
        | none => if valid t nb = true then (val t nb, 0) else (0, 4)
        | some _ => if valid (brk t).1 nb = true then (0, 1) else (0, 4)) := HE0
    clear HE0 ht HR
    go_wp2_with fail
    generalize D.extract (P + 1) D.size = T at *
    obtain rfl := F3.out
    clear F3 F4 hl3
    cases hq : (brk T.data.toList).2 with
    | none =>
      have HQ : Hid ((brk T.data.toList).2 = none) := hq
      have E1 : Hid (RES = if valid T.data.toList nb = true then (val T.data.toList nb, 0) else (0, 4)) := by
        have := E0.out; rw [hq] at this; exact this
      clear hq E0
      refine (hash_no T _ s2 HQ.out).mono ?_
      rintro e w' ⟨rfl, rfl⟩
      cases hv : valid T.data.toList nb
      case false =>
        have HV2 : Hid (valid T.data.toList nb = false) := hv
        have HE : Hid (RES = (0, 4)) := by have := E1.out; rw [hv] at this; exact this
        clear hv
        go_wp2_with fail
        refine (valid_is T _ nb false _ s2 rfl HV2.out).mono ?_
        rintro e w' ⟨rfl, rfl⟩
        go_wp2
        go_ret2
        exact ⟨by rw [HE.out]; rfl, rfl⟩
      case true =>
        have HV2 : Hid (valid T.data.toList nb = true) := hv
        have HE : Hid (RES = (val T.data.toList nb, 0)) := by have := E1.out; rw [hv] at this; exact this
        clear hv
        go_wp2_with fail
        refine (valid_is T _ nb true _ s2 rfl HV2.out).mono ?_
        rintro e w' ⟨rfl, rfl⟩
        go_wp2_with fail
        refine (value_any T nb _ s2).mono ?_
        rintro e w' ⟨rfl, rfl⟩
        go_wp2
        go_ret2
        exact ⟨by rw [HE.out]; rfl, rfl⟩
    | some u =>
      obtain ⟨g1, g2, g3, g4⟩ := brk_facts hq
      have HQ : Hid ((brk T.data.toList).2 = some u) := hq
      obtain ⟨q, hqq⟩ : ∃ q, (brk T.data.toList).1.length = q := ⟨_, rfl⟩
      have HQQ : Hid ((brk T.data.toList).1.length = q) := hqq
      obtain ⟨pre2, hpre2⟩ : ∃ pre2, (brk T.data.toList).1 = pre2 := ⟨_, rfl⟩
      have E1 : Hid (RES = if valid pre2 nb = true then (0, 1) else (0, 4)) := by
        have := E0.out; rw [hq, hpre2] at this; exact this
      rw [hqq] at g1 g2
      rw [hpre2] at g2
      have G2 : Hid ((T.extract 0 q).data.toList = pre2) := g2
      have s3 : (T.extract 0 q).size ≤ 100000 := by simp; omega
      clear hq hqq hpre2 g2 g3 g4 E0
      refine (hash_yes T u q _ s2 HQ.out HQQ.out).mono ?_
      rintro e w' ⟨rfl, rfl⟩
      cases hv : valid pre2 nb
      case false =>
        have HV2 : Hid (valid pre2 nb = false) := hv
        have HE : Hid (RES = (0, 4)) := by have := E1.out; rw [hv] at this; exact this
        clear hv
        go_wp2_with fail
        refine (valid_is _ pre2 nb false _ s3 G2.out HV2.out).mono ?_
        rintro e w' ⟨rfl, rfl⟩
        go_wp2
        go_ret2
        exact ⟨by rw [HE.out]; rfl, rfl⟩
      case true =>
        have HV2 : Hid (valid pre2 nb = true) := hv
        have HE : Hid (RES = (0, 1)) := by have := E1.out; rw [hv] at this; exact this
        clear hv
        go_wp2_with fail
        refine (valid_is _ pre2 nb true _ s3 G2.out HV2.out).mono ?_
        rintro e w' ⟨rfl, rfl⟩
        go_wp2
        go_ret2
        exact ⟨by rw [HE.out]; rfl, rfl⟩

/-! The law. -/
set_option maxHeartbeats 400000 in
theorem matches_any (d : ByteArray) (w : World) :
    Calls Try.prog 3 #[.string d] w fun e w' => e = .returned (.bool true) ∧ ∃ q, w' = w.drewN q := by
  by_cases hd : d.size ≤ 65536
  · by_cases h0 : 0 < d.size
    · have hb := byte_bd d[0]
      have h0' : (0 : Int) < (d.size : Int) := by omega
      have hz' : ((d.size : Int) == 0) = false := beq_eq_false_iff_ne.2 (by omega)
      by_cases c1 : (d[0].toNat : Int) < 48
      · go_enter Try.func3, Try.ntmps3
        go_wp2_with fail
        refine (bytes5_any d _).mono ?_
        rintro e w' ⟨rfl, rfl⟩
        rw [decide_eq_true (show d.size ≤ 1048576 by omega)]
        go_wp2
        go_ret
        exact ⟨rfl, 0, rfl⟩
      by_cases c2 : (57 : Int) < (d[0].toNat : Int)
      · go_enter Try.func3, Try.ntmps3
        go_wp2_with fail
        refine (bytes5_any d _).mono ?_
        rintro e w' ⟨rfl, rfl⟩
        rw [decide_eq_true (show d.size ≤ 1048576 by omega)]
        go_wp2
        go_ret
        exact ⟨rfl, 0, rfl⟩
      have HM := fun w => model_any d w (by omega) h0
      have HP := fun w => zz_any d w (by omega) h0
      rw [parse_model] at HP
      generalize model d.data.toList = r at *
      have HM' : Hid (∀ w, Calls Try.prog 6 #[.string d] w fun e w' => e = Ans r ∧ w' = w) := HM
      have HP' : Hid (∀ w, Calls Try.prog 7 #[.string d] w fun e w' => e = Ans r ∧ ∃ q, w' = w.drewN q) := HP
      clear HM HP
      unfold Ans at *
      go_enter Try.func3, Try.ntmps3
      go_wp2_with fail
      refine (bytes5_any d _).mono ?_
      rintro e w' ⟨rfl, rfl⟩
      rw [decide_eq_true (show d.size ≤ 1048576 by omega)]
      go_wp2_with fail
      refine (HM'.out _).mono ?_
      rintro e w' ⟨rfl, rfl⟩
      go_wp2_with fail
      refine (HP'.out _).mono ?_
      rintro e w' ⟨rfl, q, rfl⟩
      go_wp2
      go_ret
      exact ⟨rfl, _, rfl⟩
    · have hz : d.size = 0 := by omega
      have hz' : ((d.size : Int) == 0) = true := beq_iff_eq.2 (by omega)
      clear hz
      go_enter Try.func3, Try.ntmps3
      go_wp2_with fail
      refine (bytes5_any d _).mono ?_
      rintro e w' ⟨rfl, rfl⟩
      rw [decide_eq_true (show d.size ≤ 1048576 by omega)]
      go_wp2
      go_ret
      exact ⟨rfl, 0, rfl⟩
  · go_enter Try.func3, Try.ntmps3
    go_wp2_with fail
    refine (bytes5_any d _).mono ?_
    rintro e w' ⟨rfl, rfl⟩
    cases hv : decide (d.size ≤ 1048576)
    · clear hv
      go_wp2
      go_ret
      exact ⟨rfl, 0, rfl⟩
    · clear hv
      go_wp2
      go_ret
      exact ⟨rfl, 0, rfl⟩
end Go.Proofs.Qxb6629996a
