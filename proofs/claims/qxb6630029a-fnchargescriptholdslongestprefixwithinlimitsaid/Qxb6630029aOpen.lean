import Derived.Test.Qxb6630029aLeaf
import Derived.Deep.SlicePairs
namespace Go.Proofs.Qxb6630029a
open Go.ChangeShapes Go.WideShapes Go.ChangeAt Go.RowKit Go.Deep
set_option linter.unusedVariables false

theorem Try.cells25 : Try.prog.cellsOf 25 = 2 := by kernel_rfl
theorem Try.cells3 : Try.prog.cellsOf 3 = 1 := by kernel_rfl

/-- The works that came in, read as data, read as two functions of the place. -/
theorem rows_read {H : Type} {enc : TypeId × Value → H} {W : World} {a : Option Addr} {len cap : Nat} {d : DataW H} {p : List MemPlace}
    (h : DataW.Trod enc Try.prog W 0 (fun _ => true) true 22 (.slice a len cap) d p) : ∃ (f g : Nat → Int), Rw W a len f g := by
  obtain ⟨fuel, hf⟩ := h
  rcases open_slice_pairs Try.underlying22 Try.underlying25 Try.cells25 rfl rfl Try.cells3 Try.cells3 hf with ⟨hcs, _⟩ | ⟨x, l, c, m, n, V0, V1, D0, D1, P0, P1, hcs, _, hl, hm, hmm, _, hx⟩
  · simp [Value.cells] at hcs
    obtain ⟨rfl, rfl, rfl⟩ := hcs
    exact ⟨fun _ => 0, fun _ => 0, .inl rfl⟩
  · simp [Value.cells] at hcs
    obtain ⟨rfl, rfl, rfl⟩ := hcs
    simp only [if_true] at hmm
    subst hmm
    refine ⟨fun i => (match V0 i with | .int _ z => z | _ => 0), fun i => (match V1 i with | .int _ z => z | _ => 0), ?_⟩
    by_cases h0 : len = 0
    · exact .inl h0
    obtain ⟨b, off, spot⟩ := x
    have hspot : spot = none := by simpa [Addr.add] using World.cell?_spot (hx 0 (by omega)).1
    subst hspot
    refine .inr ⟨b, off, rfl, fun i hi => ?_⟩
    obtain ⟨e0, e1, t0, t1⟩ := hx i (by omega)
    obtain ⟨y, hy, _, _⟩ := DataW.trod_int Try.underlying3 t0
    obtain ⟨z, hz, _, _⟩ := DataW.trod_int Try.underlying3 t1
    simp only [List.cons.injEq, and_true] at hy hz
    rw [add_plain] at e0 e1
    rw [← Nat.add_assoc] at e1
    refine ⟨?_, ?_⟩
    · rw [e0]; simp only [hy]
    · rw [e1]; simp only [hz]
end Go.Proofs.Qxb6630029a
