import Derived.Test.Qxb6628976aFind
import Derived.RegionTactic
import Derived.BigRegion
namespace Go.Proofs.Qxb6628976a
open Go.ChangeShapes Go.WideShapes Go.ChangeAt Go.RowKit
set_option linter.unusedVariables false

theorem Try.info32 : (Try.prog.info? 32).map (fun i => (i.zero, i.size, i.bytes)) = some (some (.agg #[.string ⟨#[]⟩, .int .i64 0]), 2, 24) := by kernel_rfl

/-- The row of 'N' replicas at the head of block 'w.heap.size', of the call's own; the first 't' are filled. -/
def Fill (w wr : World) (g N : Nat) (s : Nat → ByteArray) (f : Nat → Int) (t : Nat) : Prop :=
  ∃ xs, wr.ownsRow w.heap.size 32 2 (.slice (some ⟨g, 0, none⟩) N N) N xs ∧ (∀ j, j < t → xs[j * 2]? = some (.string (s j)) ∧ xs[j * 2 + 1]? = some (.int .i64 (f j))) ∧ Below w.heap.size w wr ∧ w.heap.size ≤ g

theorem ownsRow_drew {w : World} {base : Nat} {e : TypeId} {size : Nat} {v : Value} {n : Nat} {xs : List Value} (h : w.ownsRow base e size v n xs) : w.drew.ownsRow base e size v n xs := h

theorem Fill.next {w wr : World} {g N : Nat} {s : Nat → ByteArray} {f : Nat → Int} {t : Nat} (hf : Fill w wr g N s f t) (ht : t < N) (x : ByteArray) (y : Int) (hx : x = s t) (hy : y = f t) :
    Fill w ((wr.setCell ⟨g, t * 2, none⟩ (.string x)).setCell ⟨g, t * 2 + 1, none⟩ (.int .i64 y)).drew g N s f (t + 1) := by
  obtain ⟨xs, ho, hc, hb, hg⟩ := hf
  refine ⟨(xs.set (t * 2) (.string x)).set (t * 2 + 1) (.int .i64 y), ownsRow_drew ((ho.stored (t * 2) _).1.stored (t * 2 + 1) _).1, fun j hj => ?_, ((hb.setCell hg _).setCell hg _).drew, hg⟩
  have hl : xs.length = N * 2 := by simpa using ho.1
  by_cases e : j = t
  · subst e
    refine ⟨?_, ?_⟩
    · rw [List.getElem?_set_ne (by omega), List.getElem?_set_self (by omega), hx]
    · rw [List.getElem?_set_self (by simp; omega), hy]
  · rw [List.getElem?_set_ne (by omega), List.getElem?_set_ne (by omega), List.getElem?_set_ne (by omega), List.getElem?_set_ne (by omega)]; exact hc j (by omega)

theorem Fill.cell {w wr : World} {g N : Nat} {s : Nat → ByteArray} {f : Nat → Int} {t : Nat} (hf : Fill w wr g N s f t) (j : Nat) (hj : j < N * 2) :
    (∃ v, wr.cell? ⟨g, j, none⟩ = some v) ∧ wr.frozen? ⟨g, j, none⟩ = false := by
  obtain ⟨xs, ho, hc, hb, hg⟩ := hf
  have hl : xs.length = N * 2 := by simpa using ho.1
  exact ⟨⟨xs[j], by rw [ho.cellAt j (by omega)]; exact List.getElem?_eq_getElem (by omega)⟩, ho.frozenAt j⟩

theorem Fill.rw {w wr : World} {g N : Nat} {s : Nat → ByteArray} {f : Nat → Int} {t : Nat} (hf : Fill w wr g N s f t) (ht : N ≤ t) : Rw wr (some ⟨g, 0, none⟩) N s f := by
  obtain ⟨xs, ho, hc, hb, hg⟩ := hf
  refine .inr ⟨g, 0, rfl, fun i hi => ?_⟩
  obtain ⟨h1, h2⟩ := hc i (by omega)
  rw [Nat.zero_add]
  exact ⟨by rw [ho.cellAt _ (by omega)]; exact h1, by rw [ho.cellAt _ (by omega)]; exact h2⟩

theorem list_nil (w : World) : Calls Try.prog 7 #[.slice none 0 0] w fun e w' => e = .returned (.slice none 0 0) ∧ w' = w := by
  have k1 := fun (w : World) (a : Option Addr) (n c n' c' : Nat) => Lib.run_eql_slice_nil (P := Try.prog) w 22 24 a n c n' c' Try.underlying22
  go_enter Try.func7, Try.ntmps7
  go_wp2
  go_ret
  exact ⟨rfl, rfl⟩

set_option maxHeartbeats 600000 in
theorem list_some (x : Addr) (n c : Nat) (s : Nat → ByteArray) (f : Nat → Int) (w : World) (hn : n ≤ 1000000) (hr : Rw w (some x) n s f) :
    Calls Try.prog 7 #[.slice (some x) n c] w fun e w' => e = .returned (.slice (some ⟨w.heap.size, 0, none⟩) n n) ∧
      Rw w' (some ⟨w.heap.size, 0, none⟩) n s f ∧ Below w.heap.size w w' := by
  have k1 := fun (w : World) (a : Option Addr) (n c n' c' : Nat) => Lib.run_eql_slice_nil (P := Try.prog) w 22 24 a n c n' c' Try.underlying22
  have Hr : Hid (Rw w (some x) n s f) := hr
  clear hr
  obtain ⟨i0, hi, hz0, hz1, hz2⟩ := info_parts Try.info32
  go_enter Try.func7, Try.ntmps7
  go_wp2_with (at_make; refine wpList_make_full _ rfl (.tmp 8) (.tmp 8) 28 rfl w.heap.size 32 i0 (.agg #[.string ⟨#[]⟩, .int .i64 0]) 2 Try.underlying28 hi hz0 hz1 _ _ _ _ n rfl rfl rfl rfl (by rw [hz2]; omega) (by unfold maxLen; omega) (Nat.le_refl _) ?_; intro w1 hown hgrow)
  have HF : Fill w w1 w.heap.size n s f 0 := ⟨_, hown, fun j hj => by omega, (Below.refl _ _).grown hgrow (Nat.le_refl _) (fun k hk => by cases hk), Nat.le_refl _⟩
  clear hown hgrow hi hz0 hz1 hz2 k1
  go_loopw [4] (fun i wr => ∃ t : Nat, t ≤ n ∧ i = .int .i64 t ∧ Fill w wr w.heap.size n s f t) (fun i _ => n - (intOf i).toNat)
  case atStart => exact ⟨0, Nat.zero_le _, rfl, HF⟩
  case round =>
    clear HF
    obtain ⟨t, ht, rfl, hf⟩ := hrel
    have hb : Below w.heap.size w wr := hf.choose_spec.2.2.1
    have HB : Hid (Below w.heap.size w wr) := hb
    have HF : Hid (Fill w wr w.heap.size n s f t) := hf
    by_cases htn : t < n
    · obtain ⟨⟨v0, hv0⟩, hf0⟩ := hf.cell (t * 2) (by omega)
      obtain ⟨⟨v1, hv1⟩, hf1⟩ := hf.cell (t * 2 + 1) (by omega)
      rcases Hr.out with h0 | ⟨b, off, hx, hc⟩
      · omega
      have hbb : b < w.heap.size := World.block_lt_of_cell? w _ (hc t htn).1
      have hbn : b ≠ w.heap.size := by omega
      have c0 := cell_later hb (hc t htn).1
      have c1 := cell_later hb (hc t htn).2
      have hx' : x = ⟨b, off, none⟩ := by simpa using hx
      subst hx'
      have hnx := hf.next htn (s t) (f t) rfl rfl
      have HN : Hid (Fill w ((wr.setCell ⟨w.heap.size, t * 2, none⟩ (.string (s t))).setCell ⟨w.heap.size, t * 2 + 1, none⟩ (.int .i64 (f t))).drew w.heap.size n s f (t + 1)) := hnx
      have htn' : (t : Int) < (n : Int) := by omega
      clear hnx hf hb hc hx
      go_wp2
      go_region
      go_wp2
      go_roundw
      case rel => exact ⟨t + 1, by omega, by go_num, HN.out⟩
      case measure => simp [intOf]; omega
    · go_wp2
      go_ret
      exact ⟨rfl, HF.out.rw (by omega), HB.out⟩
end Go.Proofs.Qxb6628976a
