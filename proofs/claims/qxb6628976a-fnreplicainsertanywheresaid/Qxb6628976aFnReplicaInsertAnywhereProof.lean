import Derived.Test.Qxb6628976aRows
import Derived.Test.Qxb6628976aInsert
import Derived.Test.Qxb6628976aOpen
import Derived.ShutString
import Derived.ChangeOld
import Derived.Lib.SmallJoins
namespace Go.Proofs.Qxb6628976a.fnReplicaInsertAnywhere
open Go.ChangeShapes Go.WideShapes Go.ChangeAt Go.RowKit Go.Joins
open Go.ChangeMaps (open_string shut_string)
set_option linter.unusedVariables false

theorem own : ownKnob Try.prog.godebug = none := by kernel_rfl
theorem laidOut : laidOutB Try.prog = true := by kernel_rfl

set_option maxRecDepth 100000 in
theorem lifted (os : Os) (started : os.Started) (H : Type) (enc : TypeId × Value → H) :
    ReturnsInHanded {} Try.checked os 3 .any (Rows.fnReplicaInsertAnywhereSpec.pre6 enc Try.prog Try.f3 Rows.fnReplicaInsertAnywhereRow.domain false) (Rows.fnReplicaInsertAnywhereSpec.post enc Try.prog Try.f3 false true false false) := by
  refine returnsInHanded_of_change (C := Try.checked) own started (by kernel_rfl) Try.func3
    (ChangeSpec.witness6 (enc := enc) (C := Try.checked) false ⟨#[], #[.int .i64 0, .string ⟨#[]⟩, .string ⟨#[]⟩, .string ⟨#[]⟩, .slice none 0 0, .int .i64 0, .agg #[.string ⟨#[]⟩, .int .i64 0], .string ⟨#[]⟩], []⟩ 8 (by kernel_rfl) (by kernel_rfl) (by kernel_rfl) (by kernel_rfl)) ?_
  intro W base args ds gs before hval0 hW hcnd _
  have hval : ∀ (j : Nat) t v, Try.f3.params[j]? = some t → args[j]? = some v → Value.okWide Try.prog W .any base t v := hval0
  have hW' := hW
  obtain ⟨p, q, hA0, hV, rfl, hfz, hnd⟩ := hW
  have hA : DataW.TrodAll enc Try.prog W 0 (fun _ => true) true Try.f3.params.toList args.toList ds p := hA0
  rw [Try.params3] at hA hval
  obtain ⟨v0, vs0, d0, ds0, p0, q0, hargs, rfl, rfl, h0, r0⟩ := trodAll_cons hA
  obtain ⟨v1, vs1, d1, ds1, p1, q1, rfl, rfl, rfl, h1, r1⟩ := trodAll_cons r0
  obtain ⟨v2, vs2, d2, ds2, p2, q2, rfl, rfl, rfl, h2, r2⟩ := trodAll_cons r1
  obtain ⟨v3, vs3, d3, ds3, p3, q3, rfl, rfl, rfl, h3, r3⟩ := trodAll_cons r2
  obtain ⟨v4, vs4, d4, ds4, p4, q4, rfl, rfl, rfl, h4, r4⟩ := trodAll_cons r3
  obtain ⟨v5, vs5, d5, ds5, p5, q5, rfl, rfl, rfl, h5, r5⟩ := trodAll_cons r4
  obtain ⟨v6, vs6, d6, ds6, p6, q6, rfl, rfl, rfl, h6, r6⟩ := trodAll_cons r5
  obtain ⟨v7, vs7, d7, ds7, p7, q7, rfl, rfl, rfl, h7, r7⟩ := trodAll_cons r6
  obtain ⟨rfl, rfl, rfl⟩ := trodAll_nil r7
  obtain rfl : args = #[v0, v1, v2, v3, v4, v5, v6, v7] := by cases args; simp_all
  obtain ⟨rfl, rfl⟩ := trodVars_none hV
  obtain ⟨i0, rfl, rfl, rfl, wx0⟩ := open_int Try.underlying2 (hval 0 2 v0 rfl rfl) h0
  obtain ⟨s1, rfl, rfl, rfl, wx1⟩ := open_string Try.underlying9 (hval 1 9 v1 rfl rfl) h1
  obtain ⟨s2, rfl, rfl, rfl, wx2⟩ := open_string Try.underlying9 (hval 2 9 v2 rfl rfl) h2
  obtain ⟨s3, rfl, rfl, rfl, wx3⟩ := open_string Try.underlying9 (hval 3 9 v3 rfl rfl) h3
  obtain ⟨a4, len4, cap4, rfl⟩ := okWide_slice Try.underlying22 (hval 4 22 v4 rfl rfl)
  have k4 := h4
  have lt4 : ∀ x ∈ p4, x.block < W.heap.size := by obtain ⟨m, hm⟩ := k4; exact DataW.trod_lt m _ _ _ hm
  obtain ⟨s, g, hr, hn0, hlen⟩ := rows_read h4
  obtain ⟨i5, rfl, rfl, rfl, wx5⟩ := open_int Try.underlying3 (hval 5 3 v5 rfl rfl) h5
  have k6 := h6
  have lt6 : ∀ x ∈ p6, x.block < W.heap.size := by obtain ⟨m, hm⟩ := k6; exact DataW.trod_lt m _ _ _ hm
  obtain ⟨xs, xg, rfl⟩ : ∃ (xs : ByteArray) (xg : Int), v6 = .agg #[.string xs, .int .i64 xg] := by
    obtain ⟨c0, c1, y0, y1, m, hv, _, _, hy0, hy1⟩ := open_agg2 Try.underlying24 (by kernel_rfl) Try.cells24 (hval 6 24 v6 rfl rfl) h6
    obtain ⟨xs, e0, _, _⟩ := DataW.trod_string Try.underlying9 hy0
    obtain ⟨xg, e1, _, _⟩ := DataW.trod_int Try.underlying2 hy1
    simp only [List.cons.injEq, and_true] at e0 e1
    subst e0 e1
    exact ⟨xs, xg, hv⟩
  obtain ⟨s7, rfl, rfl, rfl, wx7⟩ := open_string Try.underlying9 (hval 7 9 v7 rfl rfl) h7
  clear hA0 hval0
  refine (ins_any i0 i5 s1 s2 s3 s7 xs xg a4 len4 cap4 s g W hr hn0 hlen).mono fun e W' ⟨he, bel⟩ => ?_
  subst he
  exact ⟨_, rfl, _, _, _, [], _, [], hW', trodAll_mk1 (shut_bool Try.underlying4 _), (trodAll_cons_mk (shut_int Try.underlying2 wx0) (trodAll_cons_mk (shut_string Try.underlying9 wx1) (trodAll_cons_mk (shut_string Try.underlying9 wx2) (trodAll_cons_mk (shut_string Try.underlying9 wx3) (trodAll_cons_mk (Below.trod laidOut (by kernel_rfl) (of_decide_eq_true (by kernel_rfl)) k4 bel lt4) (trodAll_cons_mk (shut_int Try.underlying3 wx5) (trodAll_cons_mk (Below.trod laidOut (by kernel_rfl) (of_decide_eq_true (by kernel_rfl)) k6 bel lt6) (trodAll_cons_mk (shut_string Try.underlying9 wx7) trodAll_mk0)))))))), rfl, bel.frame _, fun h => by cases h⟩

theorem over : Rows.fnReplicaInsertAnywhereRow.holds Try.pinned (OpenSpec.ofChange Rows.fnReplicaInsertAnywhereSpec) :=
  OpenClaim.holds_of_wide 3 Try.f3 rfl rfl rfl rfl rfl rfl rfl ⟨rfl, rfl, rfl, rfl, rfl⟩ rfl rfl rfl rfl rfl (by kernel_rfl) Try.func3 (by kernel_rfl)
    (of_decide_eq_true (by kernel_rfl)) (by unfold Func.isWrapper; first | (rw [if_pos (by decide +kernel)]; kernel_rfl) | (rw [if_neg (by decide +kernel)]; exact ⟨rfl, rfl⟩))
    (fun os started H enc _ => lifted os started H enc)

/-- THE STATEMENT -/
theorem proved : Rows.FnReplicaInsertAnywhereSaid := over
end Go.Proofs.Qxb6628976a.fnReplicaInsertAnywhere
