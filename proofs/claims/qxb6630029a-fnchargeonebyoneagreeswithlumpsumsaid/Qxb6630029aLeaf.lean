import Derived.Test.Qxb6630029aRows
import Derived.WalkKit
import Derived.ProofKit
import Derived.OpenShut
import Derived.Below
import Derived.WalkSpells
import Derived.WalkLawsBesides
import Derived.Outline
import Derived.Deep.QuietTactic
import Derived.BigQuiet
import Derived.Deep.DeepCutAuto
import Derived.RegionTactic
import Derived.BigRegion
import Derived.Deep.RegionWith
namespace Go.Proofs.Qxb6630029a
open Go.ChangeShapes Go.WideShapes Go.ChangeAt Go.RowKit
set_option linter.unusedVariables false

/-! 'w.grownBy w' (some g)': new blocks, and writes to block g alone: the frame of a method that writes behind its receiver. -/
theorem g_refl (w : World) (r : Option Nat) : w.grownBy w r := ⟨rfl, rfl, rfl, Nat.le_refl _, fun _ _ _ => rfl⟩
theorem g_trans {a b c : World} {r : Option Nat} (h : a.grownBy b r) (k : b.grownBy c r) : a.grownBy c r :=
  ⟨k.os.trans h.os, k.tape.trans h.tape, k.output.trans h.output, Nat.le_trans h.size k.size, fun i hi hr => (k.block i (Nat.lt_of_lt_of_le hi h.size) hr).trans (h.block i hi hr)⟩
theorem g_alloc {a b : World} {r : Option Nat} (h : a.grownBy b r) (o : Obj) : a.grownBy (b.alloc o) r := g_trans h (World.grownBy_alloc b o r)
theorem g_drewN {a b : World} {r : Option Nat} (h : a.grownBy b r) (n : Nat) : a.grownBy (b.drewN n) r := ⟨h.os, h.tape, h.output, h.size, h.block⟩
theorem g_drew {a b : World} {r : Option Nat} (h : a.grownBy b r) : a.grownBy b.drew r := ⟨h.os, h.tape, h.output, h.size, h.block⟩
theorem g_set {a b : World} {g : Nat} (h : a.grownBy b (some g)) (j : Nat) (u : Value) : a.grownBy (b.setCell ⟨g, j, none⟩ u) (some g) :=
  g_trans h ⟨rfl, rfl, rfl, by simp [World.setCell], fun k _ hk => Below.heap_setCell _ _ _ _ (fun e => hk (by simp [e]))⟩

/-- The budget in block 'b': what it counted, and whether it is over. -/
structure Bud (w : World) (b : Nat) (P S : Int) (O : Bool) : Prop where
  c0 : w.cell? ⟨b, 0, none⟩ = some (.int .i64 P)
  c1 : w.cell? ⟨b, 1, none⟩ = some (.int .i64 S)
  c2 : w.cell? ⟨b, 2, none⟩ = some (.bool O)
  f0 : w.frozen? ⟨b, 0, none⟩ = false
  f1 : w.frozen? ⟨b, 1, none⟩ = false
  f2 : w.frozen? ⟨b, 2, none⟩ = false

theorem Bud.later {w w' : World} {b : Nat} {P S : Int} {O : Bool} (h : Bud w b P S O) (hb : Below w.heap.size w w') : Bud w' b P S O := by
  have hlt : b < w.heap.size := World.block_lt_of_cell? w _ h.c0
  exact ⟨cell_later hb h.c0, cell_later hb h.c1, cell_later hb h.c2, (hb.frozen hlt).trans h.f0, (hb.frozen hlt).trans h.f1, (hb.frozen hlt).trans h.f2⟩
theorem Bud.drewN {w : World} {b : Nat} {P S : Int} {O : Bool} (h : Bud w b P S O) (n : Nat) : Bud (w.drewN n) b P S O := ⟨h.c0, h.c1, h.c2, h.f0, h.f1, h.f2⟩
theorem Bud.drew {w : World} {b : Nat} {P S : Int} {O : Bool} (h : Bud w b P S O) : Bud w.drew b P S O := ⟨h.c0, h.c1, h.c2, h.f0, h.f1, h.f2⟩
theorem Bud.over {w : World} {b : Nat} {P S : Int} {O : Bool} (h : Bud w b P S O) (O' : Bool) : Bud (w.setCell ⟨b, 2, none⟩ (.bool O')) b P S O' := by
  obtain ⟨c0, c1, c2, f0, f1, f2⟩ := h
  exact ⟨(World.cell?_setCell_other _ _ _ _ (by simp)).trans c0, (World.cell?_setCell_other _ _ _ _ (by simp)).trans c1, World.cell?_setCell_same _ _ _ c2, by simp [f0], by simp [f1], by simp [f2]⟩
theorem Bud.parsed {w : World} {b : Nat} {P S : Int} {O : Bool} (h : Bud w b P S O) (P' : Int) : Bud (w.setCell ⟨b, 0, none⟩ (.int .i64 P')) b P' S O := by
  obtain ⟨c0, c1, c2, f0, f1, f2⟩ := h
  exact ⟨World.cell?_setCell_same _ _ _ c0, (World.cell?_setCell_other _ _ _ _ (by simp)).trans c1, (World.cell?_setCell_other _ _ _ _ (by simp)).trans c2, by simp [f0], by simp [f1], by simp [f2]⟩
theorem Bud.spent {w : World} {b : Nat} {P S : Int} {O : Bool} (h : Bud w b P S O) (S' : Int) : Bud (w.setCell ⟨b, 1, none⟩ (.int .i64 S')) b P S' O := by
  obtain ⟨c0, c1, c2, f0, f1, f2⟩ := h
  exact ⟨(World.cell?_setCell_other _ _ _ _ (by simp)).trans c0, World.cell?_setCell_same _ _ _ c1, (World.cell?_setCell_other _ _ _ _ (by simp)).trans c2, by simp [f0], by simp [f1], by simp [f2]⟩

theorem alloc_below (w : World) (o : Obj) : Below w.heap.size w (w.alloc o) := (Below.refl _ _).alloc (Nat.le_refl _) o

theorem admits_over (b : Nat) (P S p c : Int) (w : World) (h : Bud w b P S true) :
    Calls Try.prog 8 #[.pointer (some ⟨b, 0, none⟩), .agg #[.int .i64 p, .int .i64 c]] w fun e w' => e = .returned (.bool false) ∧ Bud w' b P S true ∧ w.grownBy w' (some b) := by
  have H : Hid (Bud w b P S true) := h
  obtain ⟨c0, c1, c2, f0, f1, f2⟩ := h
  have hb : b < w.heap.size := World.block_lt_of_cell? w _ c0
  have hb' : w.heap.size ≠ b := by omega
  go_enter Try.func8, Try.ntmps8
  go_wp2
  go_ret
  exact ⟨rfl, H.out.later (alloc_below _ _), g_alloc (g_refl _ _) _⟩

set_option maxHeartbeats 400000 in
theorem admits_no (b : Nat) (P S p c : Int) (w : World) (h : Bud w b P S false) (b1 : 0 ≤ P) (b2 : P ≤ 20000000) (b3 : 0 ≤ S) (b4 : S ≤ 20000000) (b5 : 0 ≤ p) (b6 : p ≤ 281474976710656) (b7 : 0 ≤ c) (b8 : c ≤ 281474976710656)
    (hx : 20000000 < P + p ∨ 20000000 < S + c) :
    Calls Try.prog 8 #[.pointer (some ⟨b, 0, none⟩), .agg #[.int .i64 p, .int .i64 c]] w fun e w' => e = .returned (.bool false) ∧ Bud w' b P S true ∧ w.grownBy w' (some b) := by
  have H : Hid (Bud w b P S false) := h
  obtain ⟨c0, c1, c2, f0, f1, f2⟩ := h
  have hb : b < w.heap.size := World.block_lt_of_cell? w _ c0
  have hb' : w.heap.size ≠ b := by omega
  have HX : Hid (20000000 < P + p ∨ 20000000 < S + c) := hx
  clear hx
  by_cases x1 : 20000000 < P + p
  · go_enter Try.func8, Try.ntmps8
    go_wp2
    go_quiet (fail)
    go_wp2
    go_ret
    exact ⟨rfl, ((H.out.later (alloc_below _ _)).drewN _).over true, g_set (g_drewN (g_alloc (g_refl _ _) _) _) _ _⟩
  · have x2 : 20000000 < S + c := by have := HX.out; omega
    have x3 : decide (20000000 < P + p) = false := decide_eq_false x1
    go_enter Try.func8, Try.ntmps8
    go_wp2
    go_quiet (fail)
    go_wp2
    go_ret
    exact ⟨rfl, ((H.out.later (alloc_below _ _)).drewN _).over true, g_set (g_drewN (g_alloc (g_refl _ _) _) _) _ _⟩

set_option maxHeartbeats 400000 in
theorem admits_yes (b : Nat) (P S p c : Int) (w : World) (h : Bud w b P S false) (b1 : 0 ≤ P) (b3 : 0 ≤ S) (b5 : 0 ≤ p) (b7 : 0 ≤ c)
    (x1 : P + p ≤ 20000000) (x2 : S + c ≤ 20000000) :
    Calls Try.prog 8 #[.pointer (some ⟨b, 0, none⟩), .agg #[.int .i64 p, .int .i64 c]] w fun e w' => e = .returned (.bool true) ∧ Bud w' b P S false ∧ w.grownBy w' (some b) := by
  have H : Hid (Bud w b P S false) := h
  obtain ⟨c0, c1, c2, f0, f1, f2⟩ := h
  have hb : b < w.heap.size := World.block_lt_of_cell? w _ c0
  have hb' : w.heap.size ≠ b := by omega
  have x3 : decide (20000000 < P + p) = false := decide_eq_false (by omega)
  have x4 : decide (20000000 < S + c) = false := decide_eq_false (by omega)
  go_enter Try.func8, Try.ntmps8
  go_wp2
  go_quiet (fail)
  go_wp2
  go_ret
  exact ⟨rfl, (H.out.later (alloc_below _ _)).drewN _, g_drewN (g_alloc (g_refl _ _) _) _⟩

/-! Charge -/
set_option maxHeartbeats 400000 in
theorem charge_over (b : Nat) (P S p c : Int) (w : World) (h : Bud w b P S true) :
    Calls Try.prog 6 #[.pointer (some ⟨b, 0, none⟩), .agg #[.int .i64 p, .int .i64 c]] w fun e w' => e = .returned (.bool false) ∧ Bud w' b P S true ∧ w.grownBy w' (some b) := by
  have H : Hid (Bud w b P S true) := h
  clear h
  go_enter Try.func6, Try.ntmps6
  go_wp2_with fail
  refine (admits_over b P S p c _ (H.out.later (alloc_below _ _))).mono ?_
  rintro e w1 ⟨rfl, hB, hG⟩
  have H1 : Hid (Bud w1 b P S true) := hB
  have G1 : Hid (w.grownBy w1 (some b)) := g_trans (g_alloc (g_refl _ _) _) hG
  clear hB hG
  go_wp2
  go_ret
  exact ⟨rfl, H1.out, G1.out⟩

set_option maxHeartbeats 400000 in
theorem charge_no (b : Nat) (P S p c : Int) (w : World) (h : Bud w b P S false) (b1 : 0 ≤ P) (b2 : P ≤ 20000000) (b3 : 0 ≤ S) (b4 : S ≤ 20000000) (b5 : 0 ≤ p) (b6 : p ≤ 281474976710656) (b7 : 0 ≤ c) (b8 : c ≤ 281474976710656)
    (hx : 20000000 < P + p ∨ 20000000 < S + c) :
    Calls Try.prog 6 #[.pointer (some ⟨b, 0, none⟩), .agg #[.int .i64 p, .int .i64 c]] w fun e w' => e = .returned (.bool false) ∧ Bud w' b P S true ∧ w.grownBy w' (some b) := by
  have H : Hid (Bud w b P S false) := h
  clear h
  go_enter Try.func6, Try.ntmps6
  go_wp2_with fail
  refine (admits_no b P S p c _ (H.out.later (alloc_below _ _)) b1 b2 b3 b4 b5 b6 b7 b8 hx).mono ?_
  rintro e w1 ⟨rfl, hB, hG⟩
  have H1 : Hid (Bud w1 b P S true) := hB
  have G1 : Hid (w.grownBy w1 (some b)) := g_trans (g_alloc (g_refl _ _) _) hG
  clear hB hG
  go_wp2
  go_ret
  exact ⟨rfl, H1.out, G1.out⟩

set_option maxHeartbeats 800000 in
theorem charge_yes (b : Nat) (P S p c : Int) (w : World) (h : Bud w b P S false) (b1 : 0 ≤ P) (b3 : 0 ≤ S) (b5 : 0 ≤ p) (b7 : 0 ≤ c)
    (x1 : P + p ≤ 20000000) (x2 : S + c ≤ 20000000) :
    Calls Try.prog 6 #[.pointer (some ⟨b, 0, none⟩), .agg #[.int .i64 p, .int .i64 c]] w fun e w' => e = .returned (.bool true) ∧ Bud w' b (P + p) (S + c) false ∧ w.grownBy w' (some b) := by
  have H : Hid (Bud w b P S false) := h
  have hb : b < w.heap.size := World.block_lt_of_cell? w _ h.c0
  have hb' : w.heap.size ≠ b := by omega
  clear h
  go_enter Try.func6, Try.ntmps6
  go_wp2_with fail
  refine (admits_yes b P S p c _ (H.out.later (alloc_below _ _)) b1 b3 b5 b7 x1 x2).mono ?_
  rintro e w1 ⟨rfl, hB, hG⟩
  have y0 : w1.cell? ⟨w.heap.size, 0, none⟩ = some (.int .i64 p) := hG.cell (a := ⟨w.heap.size, 0, none⟩) (by simp) (by simp; omega)
  have y1 : w1.cell? ⟨w.heap.size, 1, none⟩ = some (.int .i64 c) := hG.cell (a := ⟨w.heap.size, 1, none⟩) (by simp) (by simp; omega)
  have H1 : Hid (Bud w1 b P S false) := hB
  have G1 : Hid (w.grownBy w1 (some b)) := g_trans (g_alloc (g_refl _ _) _) hG
  obtain ⟨c0, c1, c2, f0, f1, f2⟩ := hB
  clear hG
  go_wp2
  go_region
  go_wp2
  go_region
  go_wp2
  go_ret
  exact ⟨rfl, ((H1.out.parsed _).spent _).drew.drew, g_drew (g_drew (g_set (g_set G1.out _ _) _ _))⟩

/-! The length guards. -/
theorem bytes5_any (a : Option Addr) (n c : Nat) (w : World) : Calls Try.prog 5 #[.slice a n c] w fun e w' => e = .returned (.bool (decide (n ≤ 1048576))) ∧ w' = w := by
  by_cases h : n ≤ 1048576
  · rw [decide_eq_true h]
    go_enter Try.func5, Try.ntmps5
    go_wp2
    go_ret
    exact ⟨rfl, rfl⟩
  · rw [decide_eq_false h]
    go_enter Try.func5, Try.ntmps5
    go_wp2
    go_ret
    exact ⟨rfl, rfl⟩
theorem bytes7_any (a : Option Addr) (n c : Nat) (p q : Int) (w : World) : Calls Try.prog 7 #[.slice a n c, .agg #[.int .i64 p, .int .i64 q]] w fun e w' => e = .returned (.bool (decide (n ≤ 1048576))) ∧ Below w.heap.size w w' := by
  by_cases h : n ≤ 1048576
  · rw [decide_eq_true h]
    go_enter Try.func7, Try.ntmps7
    go_wp2
    go_ret
    exact ⟨rfl, alloc_below _ _⟩
  · rw [decide_eq_false h]
    go_enter Try.func7, Try.ntmps7
    go_wp2
    go_ret
    exact ⟨rfl, alloc_below _ _⟩

/-- The slice at 'a' of 'n' works (two numbers each) reads as 'p', 'q' in the world 'w'. -/
def Rw (w : World) (a : Option Addr) (n : Nat) (p q : Nat → Int) : Prop :=
  n = 0 ∨ ∃ b off, a = some ⟨b, off, none⟩ ∧ ∀ i, i < n → w.cell? ⟨b, off + i * 2, none⟩ = some (.int .i64 (p i)) ∧ w.cell? ⟨b, off + i * 2 + 1, none⟩ = some (.int .i64 (q i))

theorem Rw.later {w w' : World} {a : Option Addr} {n : Nat} {p q : Nat → Int} (h : Rw w a n p q) (hb : Below w.heap.size w w') : Rw w' a n p q := by
  rcases h with h | ⟨b, off, h, hc⟩
  · exact .inl h
  · exact .inr ⟨b, off, h, fun i hi => ⟨cell_later hb (hc i hi).1, cell_later hb (hc i hi).2⟩⟩
end Go.Proofs.Qxb6630029a
