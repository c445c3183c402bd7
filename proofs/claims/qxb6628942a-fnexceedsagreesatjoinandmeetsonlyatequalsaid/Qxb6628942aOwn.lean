import Derived.Test.Qxb6628942aLeaf
import Derived.Laws.CopyOwn
import Derived.Deep.DeepCutAuto
namespace Go.Proofs.Qxb6628942a
open Go.ChangeShapes Go.WideShapes Go.ChangeAt Go.RowKit
set_option linter.unusedVariables false

theorem Try.info28 : (Try.prog.info? 28).map (fun i => (i.zero, i.size, i.bytes)) = some (some (.int .u64 0), 1, 8) := by kernel_rfl

/-- A slice of the call's own (nil, or at the head of a block), its length its capacity, reads as 'f'. -/
def Ow (w : World) (a : Option Addr) (n : Nat) (f : Nat → Int) : Prop :=
  (a = none ∧ n = 0) ∨ ∃ g, a = some ⟨g, 0, none⟩ ∧ ∀ i, i < n → w.cell? ⟨g, i, none⟩ = some (.int .u64 (f i))

theorem Ow.rd {w : World} {a : Option Addr} {n : Nat} {f : Nat → Int} (h : Ow w a n f) : Rd w a n f := by
  rcases h with ⟨_, h⟩ | ⟨g, h, hc⟩
  · exact .inl h
  · exact .inr ⟨g, 0, h, fun i hi => by simpa using hc i hi⟩

theorem Ow.later {w w' : World} {a : Option Addr} {n : Nat} {f : Nat → Int} (h : Ow w a n f) (hb : Below w.heap.size w w') : Ow w' a n f := by
  rcases h with h | ⟨g, h, hc⟩
  · exact .inl h
  · exact .inr ⟨g, h, fun i hi => cell_later hb (hc i hi)⟩

theorem Rd.later {w w' : World} {a : Option Addr} {n : Nat} {f : Nat → Int} (h : Rd w a n f) (hb : Below w.heap.size w w') : Rd w' a n f := by
  rcases h with h | ⟨b, off, h, hc⟩
  · exact .inl h
  · exact .inr ⟨b, off, h, fun i hi => cell_later hb (hc i hi)⟩

/-- What the call owns reads as 'f' if its cells are 'f'. -/
theorem Ow.of_row {w : World} {base g n : Nat} {xs : List Value} {f : Nat → Int} (h : w.ownsRow base 28 1 (.slice (some ⟨g, 0, none⟩) n n) n xs)
    (hx : ∀ i, i < n → xs[i]? = some (.int .u64 (f i))) : Ow w (some ⟨g, 0, none⟩) n f :=
  .inr ⟨g, rfl, fun i hi => by rw [h.cellAt i (by omega)]; exact hx i hi⟩

def cellsOf (n : Nat) (f : Nat → Int) : List Value := (List.range n).map fun i => .int .u64 (f i)
theorem cellsOf_length (n : Nat) (f : Nat → Int) : (cellsOf n f).length = n := by simp [cellsOf]
theorem cellsOf_get (n : Nat) (f : Nat → Int) (i : Nat) (h : i < n) : (cellsOf n f)[i]? = some (.int .u64 (f i)) := by
  simp [cellsOf, h]
theorem cellsOf_get' {n : Nat} {f : Nat → Int} {i : Nat} {v : Value} (h : (cellsOf n f)[i]? = some v) : i < n ∧ v = .int .u64 (f i) := by
  have hi : i < n := by
    have := (List.getElem?_eq_some_iff.1 h).1
    simpa [cellsOf_length] using this
  rw [cellsOf_get n f i hi] at h
  exact ⟨hi, by simpa using h.symm⟩
theorem cellsOf_one (n : Nat) (f : Nat → Int) : ∀ v ∈ cellsOf n f, v.oneCell' = true := by
  intro v hv
  simp only [cellsOf, List.mem_map] at hv
  obtain ⟨i, _, rfl⟩ := hv
  rfl

theorem wpList_copy_ow {w : World} {ops : Array Oper} {rest : List Oper} {o : Oper} {a : Act} {Q : Exit → Act → World → Prop} (hgd : o.guard = none) (d s : Operand)
    (ho : o.op = .call { callee := .builtin .copy, args := #[d, s], argTypes := #[22, 22] })
    (g n : Nat) (sp : Option Addr) (sc : Nat) (hd : a.eval d = .slice (some ⟨g, 0, none⟩) n n) (hs : a.eval s = .slice sp n sc)
    (base : Nat) (xs : List Value) (hown : w.ownsRow base 28 1 (.slice (some ⟨g, 0, none⟩) n n) n xs) (f : Nat → Int) (hr : Rd w sp n f) (w0 : World) (B : Nat) (hb : Below B w0 w) (hB : B ≤ g)
    (h : ∀ w', Ow w' (some ⟨g, 0, none⟩) n f → Below B w0 w' → wpList Try.prog ops Q rest (a.put o.dst (goInt n)) w') : wpList Try.prog ops Q (o :: rest) a w := by
  obtain ⟨cur, hheap, hcs, htake⟩ : ∃ cur : Array Value, w.heap[g]? = some (.cells cur 28 (0, 0)) ∧ cur.size = n ∧ True := by
    rcases hown.2 with ⟨h', _⟩ | ⟨g', cap', cur, h', _, hg, _, _, hcs, htake⟩
    · simp at h'
    · simp only [Value.slice.injEq, Option.some.injEq, Addr.mk.injEq, and_true, true_and] at h'
      obtain ⟨rfl, rfl⟩ := h'
      exact ⟨cur, hg, by simpa using hcs, trivial⟩
  have hg' : w.heap[g]? = some (.cells cur.toList.toArray 28 (0, 0)) := by simpa using hheap
  obtain ⟨i0, hi, hz0, hz1, hz2⟩ := info_parts Try.info28
  refine wpList_copy_splice hgd d s 22 22 ho 28 Try.underlying22 (by rw [hi]; simp [hz1]) (some ⟨g, 0, none⟩) sp n n n sc hd hs g 0 cur.toList 28 hg' (cellsOf n f) (by simp [cellsOf_length])
    ?_ (by simp [cellsOf_length, hcs]) (cellsOf_one n f) B w0 hb hB ?_
  · intro hpos
    rw [cellsOf_length] at hpos
    rcases hr with h0 | ⟨b, off, rfl, hc⟩
    · omega
    · refine ⟨rfl, ⟨b, off, none⟩, rfl, fun j v hj => ?_⟩
      obtain ⟨hjn, rfl⟩ := cellsOf_get' hj
      rw [add_plain]; exact hc j hjn
  · intro w' Hg' hb'
    rw [cellsOf_length]
    refine h w' (.inr ⟨g, rfl, fun i hi => ?_⟩) hb'
    have hh := Hg'.out
    rw [cell_of_row w' g i _ 28 (0, 0) hh]
    have : splice cur.toList 0 (cellsOf n f) = cellsOf n f := by
      simp [splice, cellsOf_length, hcs]
    rw [this]
    simpa using cellsOf_get n f i hi

def mx (n : Nat) (f : Nat → Int) (m : Nat) (g : Nat → Int) (k : Nat) : Int := if ent m g k < ent n f k then ent n f k else ent m g k

/-- The rows of 'm' that are filled so far. -/
def Fill (w wr : World) (N : Nat) (h : Nat → Int) (t : Nat) : Prop :=
  ∃ xs, wr.ownsRow w.heap.size 28 1 (.slice (some ⟨w.heap.size, 0, none⟩) N N) N xs ∧ (∀ j, j < t → xs[j]? = some (.int .u64 (h j))) ∧ Below w.heap.size w wr

theorem Fill.next {w wr : World} {N : Nat} {h : Nat → Int} {t : Nat} (hf : Fill w wr N h t) (ht : t < N) (x : Int) (hx : x = h t) :
    Fill w (wr.setCell ⟨w.heap.size, t, none⟩ (.int .u64 x)) N h (t + 1) := by
  obtain ⟨xs, ho, hc, hb⟩ := hf
  refine ⟨xs.set t (.int .u64 x), (ho.stored t _).1, fun j hj => ?_, hb.setCell (Nat.le_refl _) _⟩
  have hl : xs.length = N := by simpa using ho.1
  by_cases e : j = t
  · subst e; rw [List.getElem?_set_self (by omega), hx]
  · rw [List.getElem?_set_ne (by omega)]; exact hc j (by omega)

theorem Fill.cell {w wr : World} {N : Nat} {h : Nat → Int} {t : Nat} (hf : Fill w wr N h t) (j : Nat) (hj : j < N) :
    (∃ v, wr.cell? ⟨w.heap.size, j, none⟩ = some v) ∧ wr.frozen? ⟨w.heap.size, j, none⟩ = false := by
  obtain ⟨xs, ho, hc, hb⟩ := hf
  have hl : xs.length = N := by simpa using ho.1
  exact ⟨⟨xs[j], by rw [ho.cellAt j (by omega)]; exact List.getElem?_eq_getElem (by omega)⟩, ho.frozenAt j⟩

set_option maxHeartbeats 600000 in
theorem join_any (a b : Option Addr) (n c m d : Nat) (f g : Nat → Int) (w : World) (hn : n ≤ 1000000) (hm : m ≤ 1000000) (hr : Rd w a n f) (hg : Rd w b m g) :
    Calls Try.prog 10 #[.slice a n c, .slice b m d] w fun e w' => e = .returned (.slice (some ⟨w.heap.size, 0, none⟩) (max n m : Nat) (max n m : Nat)) ∧
      Ow w' (some ⟨w.heap.size, 0, none⟩) (max n m) (mx n f m g) ∧ Below w.heap.size w w' := by
  have hN : max n m ≤ 1000000 := by omega
  generalize hNe : max n m = N at *
  have HE : Hid (max n m = N) := hNe
  clear hNe
  have Hr : Hid (Rd w a n f) := hr
  have Hg : Hid (Rd w b m g) := hg
  clear hr hg
  obtain ⟨i0, hi, hz0, hz1, hz2⟩ := info_parts Try.info28
  go_enter Try.func10, Try.ntmps10
  go_wp2_with fail
  refine (longer_any _ _ _ _ _ _ _).mono ?_
  rintro e w' ⟨rfl, rfl⟩
  rw [HE.out]
  go_wp2_with (at_make; refine wpList_make_full _ rfl (.tmp 13) (.tmp 13) 22 rfl w'.heap.size 28 i0 (.int .u64 0) 1 Try.underlying22 hi hz0 hz1 _ _ _ _ N rfl rfl rfl rfl (by rw [hz2]; omega) (by unfold maxLen; omega) (Nat.le_refl _) ?_; intro w1 hown hgrow)
  have HF : Fill w' w1 N (mx n f m g) 0 := ⟨_, hown, fun j hj => by omega, (Below.refl _ _).grown hgrow (Nat.le_refl _) (fun k hk => by cases hk)⟩
  clear hown hgrow hi hz0 hz1 hz2
  go_loopw [7] (fun i wr => ∃ t : Nat, t ≤ N ∧ i = .int .i64 t ∧ Fill w' wr N (mx n f m g) t) (fun i _ => N - (intOf i).toNat)
  case atStart => exact ⟨0, Nat.zero_le _, rfl, HF⟩
  case round =>
    clear HF
    obtain ⟨t, ht, rfl, hf⟩ := hrel
    have hb : Below w'.heap.size w' wr := hf.choose_spec.2.2
    have Hr' : Hid (Rd wr a n f) := Hr.out.later hb
    have Hg' : Hid (Rd wr b m g) := Hg.out.later hb
    by_cases htn : t < N
    · obtain ⟨⟨v0, hv0⟩, hfz⟩ := hf.cell t htn
      by_cases hlt : ent m g t < ent n f t
      · have hnx := hf.next htn (ent n f t) (by simp [mx, hlt])
        go_wp2_with fail
        refine (entryB_any _ _ _ _ _ _ Hr'.out).mono ?_
        rintro e w2 ⟨rfl, rfl⟩
        go_wp2_with fail
        refine (entryB_any _ _ _ _ _ _ Hg'.out).mono ?_
        rintro e w3 ⟨rfl, rfl⟩
        go_wp2
        go_roundw
        case rel => exact ⟨t + 1, by omega, by go_num, hnx⟩
        case measure => simp [intOf]; omega
      · have hnx := hf.next htn (ent m g t) (by simp [mx, hlt])
        go_wp2_with fail
        refine (entryB_any _ _ _ _ _ _ Hr'.out).mono ?_
        rintro e w2 ⟨rfl, rfl⟩
        go_wp2_with fail
        refine (entryB_any _ _ _ _ _ _ Hg'.out).mono ?_
        rintro e w3 ⟨rfl, rfl⟩
        go_wp2
        go_roundw
        case rel => exact ⟨t + 1, by omega, by go_num, hnx⟩
        case measure => simp [intOf]; omega
    · have hfin : Ow wr (some ⟨w'.heap.size, 0, none⟩) N (mx n f m g) := by
        obtain ⟨xs, ho, hc, hb⟩ := hf
        exact Ow.of_row ho (fun i hi => hc i (by omega))
      go_wp2
      go_ret
      exact ⟨rfl, hfin, hb⟩
end Go.Proofs.Qxb6628942a
