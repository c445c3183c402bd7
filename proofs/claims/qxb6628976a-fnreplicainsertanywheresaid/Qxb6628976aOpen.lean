import Derived.Test.Qxb6628976aLeaf
import Derived.Deep.SlicePairs
namespace Go.Proofs.Qxb6628976a
open Go.ChangeShapes Go.WideShapes Go.ChangeAt Go.RowKit Go.Deep
set_option linter.unusedVariables false

theorem Try.cells24 : Try.prog.cellsOf 24 = 2 := by kernel_rfl
theorem Try.cells9 : Try.prog.cellsOf 9 = 1 := by kernel_rfl
theorem Try.cells2 : Try.prog.cellsOf 2 = 1 := by kernel_rfl

/-- The rows that came in, read as data, read as two functions of the place. -/
theorem rows_read {H : Type} {enc : TypeId × Value → H} {W : World} {a : Option Addr} {len cap : Nat} {d : DataW H} {p : List MemPlace}
    (h : DataW.Trod enc Try.prog W 0 (fun _ => true) true 22 (.slice a len cap) d p) :
    ∃ (s : Nat → ByteArray) (g : Nat → Int), Rw W a len s g ∧ (a = none → len = 0 ∧ cap = 0) ∧ len ≤ maxLen := by
  obtain ⟨fuel, hf⟩ := h
  rcases open_slice_pairs Try.underlying22 Try.underlying24 Try.cells24 rfl rfl Try.cells9 Try.cells2 hf with ⟨hcs, _⟩ | ⟨x, l, c, m, n, V0, V1, D0, D1, P0, P1, hcs, _, hl, hm, hmm, _, hx⟩
  · simp [Value.cells] at hcs
    obtain ⟨rfl, rfl, rfl⟩ := hcs
    exact ⟨fun _ => ⟨#[]⟩, fun _ => 0, .inl rfl, fun _ => ⟨rfl, rfl⟩, Nat.zero_le _⟩
  · simp [Value.cells] at hcs
    obtain ⟨rfl, rfl, rfl⟩ := hcs
    simp only [if_true] at hmm
    subst hmm
    refine ⟨fun i => (match V0 i with | .string s => s | _ => ⟨#[]⟩), fun i => (match V1 i with | .int _ z => z | _ => 0), ?_, (fun h => by cases h), Nat.le_trans hl hm⟩
    by_cases h0 : len = 0
    · exact .inl h0
    obtain ⟨b, off, spot⟩ := x
    have hspot : spot = none := by simpa [Addr.add] using World.cell?_spot (hx 0 (by omega)).1
    subst hspot
    refine .inr ⟨b, off, rfl, fun i hi => ?_⟩
    obtain ⟨e0, e1, t0, t1⟩ := hx i (by omega)
    obtain ⟨s, hs, _, _⟩ := DataW.trod_string Try.underlying9 t0
    obtain ⟨z, hz, _, _⟩ := DataW.trod_int Try.underlying2 t1
    simp only [List.cons.injEq, and_true] at hs hz
    rw [add_plain] at e0 e1
    rw [← Nat.add_assoc] at e1
    refine ⟨?_, ?_⟩
    · rw [e0]; simp only [hs]
    · rw [e1]; simp only [hz]
end Go.Proofs.Qxb6628976a
