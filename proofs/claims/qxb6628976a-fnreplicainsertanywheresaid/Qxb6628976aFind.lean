import Derived.Test.Qxb6628976aLeaf
namespace Go.Proofs.Qxb6628976a
open Go.ChangeShapes Go.WideShapes Go.ChangeAt Go.RowKit
set_option linter.unusedVariables false

def same (p q : ByteArray) : Bool := p.toList == q.toList

theorem clos_any (p st : ByteArray) (pg : Int) (bs : Nat) (v : Bool) (w : World) (hs : w.cell? ⟨bs, 0, none⟩ = some (.string st)) (hv : same p st = v) :
    Calls Try.prog 12 #[.agg #[.string p, .int .i64 pg], .pointer (some ⟨bs, 0, none⟩)] w fun e w' => e = .returned (.bool v) ∧ Below w.heap.size w w' := by
  have hb : bs < w.heap.size := World.block_lt_of_cell? w _ hs
  have hb' : w.heap.size ≠ bs := by omega
  unfold same at hv
  subst hv
  go_enter Try.func12, Try.ntmps12
  go_wp2
  go_ret
  exact ⟨rfl, (Below.refl _ _).alloc (Nat.le_refl _) _⟩

theorem Rw.later {w w' : World} {a : Option Addr} {n : Nat} {s : Nat → ByteArray} {g : Nat → Int} (h : Rw w a n s g) (hb : Below w.heap.size w w') : Rw w' a n s g := by
  rcases h with h | ⟨b, off, h, hc⟩
  · exact .inl h
  · exact .inr ⟨b, off, h, fun i hi => ⟨cell_later hb (hc i hi).1, cell_later hb (hc i hi).2⟩⟩

set_option maxHeartbeats 400000 in
theorem idx_yes (a : Option Addr) (n c : Nat) (s : Nat → ByteArray) (g : Nat → Int) (st : ByteArray) (bs k : Nat) (w : World) (hn : n ≤ 1000000) (hr : Rw w a n s g) (hs : w.cell? ⟨bs, 0, none⟩ = some (.string st))
    (hk : k < n) (h1 : same (s k) st = true) (h2 : ∀ j, j < k → same (s j) st = false) :
    Calls Try.prog 11 #[.slice a n c, .func (.func 12) #[] #[.pointer (some ⟨bs, 0, none⟩)]] w fun e w' => e = .returned (.int .i64 k) ∧ Below w.heap.size w w' := by
  rcases hr with h0 | ⟨b, off, rfl, hc⟩
  · omega
  have Hc : Hid (∀ i, i < n → w.cell? ⟨b, off + i * 2, none⟩ = some (.string (s i)) ∧ w.cell? ⟨b, off + i * 2 + 1, none⟩ = some (.int .i64 (g i))) := hc
  have H1 : Hid (same (s k) st = true) := h1
  have H2 : Hid (∀ j, j < k → same (s j) st = false) := h2
  have Hs : Hid (w.cell? ⟨bs, 0, none⟩ = some (.string st)) := hs
  clear hc h1 h2 hs
  go_enter Try.func11, Try.ntmps11
  go_wp2
  go_loopw [8] (fun i wr => ∃ t : Nat, t ≤ k ∧ i = .int .i64 t ∧ Below w.heap.size w wr) (fun i _ => n - (intOf i).toNat)
  case atStart => exact ⟨0, Nat.zero_le _, rfl, Below.refl _ _⟩
  case round =>
    obtain ⟨t, ht, rfl, hb⟩ := hrel
    have htn : t < n := by omega
    obtain ⟨c0, c1⟩ := Hc.out t htn
    have d0 := cell_later hb c0
    have d1 := cell_later hb c1
    have ds := cell_later hb Hs.out
    have HB : Hid (Below w.heap.size w wr) := hb
    clear c0 c1 hb
    by_cases e : t = k
    · subst e
      go_wp2_with fail
      refine (clos_any _ _ _ _ true _ ds H1.out).mono ?_
      rintro e w2 ⟨rfl, hb2⟩
      go_wp2
      go_ret
      exact ⟨rfl, HB.out.trans (hb2.mono HB.out.size)⟩
    · go_wp2_with fail
      refine (clos_any _ _ _ _ false _ ds (H2.out t (by omega))).mono ?_
      rintro e w2 ⟨rfl, hb2⟩
      go_wp2
      go_roundw
      case rel => exact ⟨t + 1, by omega, by go_num, HB.out.trans (hb2.mono HB.out.size)⟩
      case measure => simp [intOf]; omega

set_option maxHeartbeats 400000 in
theorem idx_no (a : Option Addr) (n c : Nat) (s : Nat → ByteArray) (g : Nat → Int) (st : ByteArray) (bs : Nat) (w : World) (hn : n ≤ 1000000) (hr : Rw w a n s g) (hs : w.cell? ⟨bs, 0, none⟩ = some (.string st))
    (h2 : ∀ j, j < n → same (s j) st = false) :
    Calls Try.prog 11 #[.slice a n c, .func (.func 12) #[] #[.pointer (some ⟨bs, 0, none⟩)]] w fun e w' => e = .returned (.int .i64 (-1)) ∧ Below w.heap.size w w' := by
  have Hr : Hid (Rw w a n s g) := hr
  have H2 : Hid (∀ j, j < n → same (s j) st = false) := h2
  have Hs : Hid (w.cell? ⟨bs, 0, none⟩ = some (.string st)) := hs
  clear hr h2 hs
  go_enter Try.func11, Try.ntmps11
  go_wp2
  go_loopw [8] (fun i wr => ∃ t : Nat, t ≤ n ∧ i = .int .i64 t ∧ Below w.heap.size w wr) (fun i _ => n - (intOf i).toNat)
  case atStart => exact ⟨0, Nat.zero_le _, rfl, Below.refl _ _⟩
  case round =>
    obtain ⟨t, ht, rfl, hb⟩ := hrel
    by_cases htn : t < n
    · rcases Hr.out with h0 | ⟨b, off, rfl, hc⟩
      · omega
      obtain ⟨c0, c1⟩ := hc t htn
      have d0 := cell_later hb c0
      have d1 := cell_later hb c1
      have ds := cell_later hb Hs.out
      have HB : Hid (Below w.heap.size w wr) := hb
      clear c0 c1 hb hc
      go_wp2_with fail
      refine (clos_any _ _ _ _ false _ ds (H2.out t (by omega))).mono ?_
      rintro e w2 ⟨rfl, hb2⟩
      go_wp2
      go_roundw
      case rel => exact ⟨t + 1, by omega, by go_num, HB.out.trans (hb2.mono HB.out.size)⟩
      case measure => simp [intOf]; omega
    · go_wp2
      go_ret
      exact ⟨rfl, hb⟩

/-- The two blocks that a look-up makes first: the storage that it looks for, and its result. -/
def two (w : World) (st : ByteArray) : World := (w.alloc (.cells #[.string st] 9)).alloc (.cells #[.string ⟨#[]⟩, .int .i64 0] 32)
theorem two_below (w : World) (st : ByteArray) : Below w.heap.size w (two w st) := ((Below.refl _ _).alloc (Nat.le_refl _) _).alloc (by simp) _
theorem two_size (w : World) (st : ByteArray) : (two w st).heap.size = w.heap.size + 2 := by simp [two]
theorem two_facts (w w1 : World) (st : ByteArray) (hb : Below (two w st).heap.size (two w st) w1) :
    w1.cell? ⟨w.heap.size + 1, 0, none⟩ = some (.string ⟨#[]⟩) ∧ w1.cell? ⟨w.heap.size + 1, 1, none⟩ = some (.int .i64 0) ∧ w1.frozen? ⟨w.heap.size + 1, 0, none⟩ = false ∧ w1.frozen? ⟨w.heap.size + 1, 1, none⟩ = false ∧ w.heap.size + 1 < w1.heap.size := by
  have hs := hb.size
  rw [two_size] at hs
  refine ⟨?_, ?_, ?_, ?_, by omega⟩
  · rw [hb.cell (by rw [two_size]; simp)]; simp [two]
  · rw [hb.cell (by rw [two_size]; simp)]; simp [two]
  · rw [hb.frozen (by rw [two_size]; simp)]; simp [two]
  · rw [hb.frozen (by rw [two_size]; simp)]; simp [two]

/- What a repository finds: the first replica on 'st' of the rows 's', 'g'; none: the zero replica. -/
set_option maxHeartbeats 400000 in
theorem rep_yes (br : Nat) (a : Option Addr) (n c : Nat) (s : Nat → ByteArray) (g : Nat → Int) (st : ByteArray) (k : Nat) (w : World) (hn : n ≤ 1000000) (hr : Rw w a n s g) (hp : w.cell? ⟨br, 4, none⟩ = some (.slice a n c))
    (hk : k < n) (h1 : same (s k) st = true) (h2 : ∀ j, j < k → same (s j) st = false) :
    Calls Try.prog 8 #[.pointer (some ⟨br, 0, none⟩), .string st] w fun e w' => e = .returned (.tuple #[.agg #[.string (s k), .int .i64 (g k)], .bool true]) ∧ Below w.heap.size w w' := by
  rcases hr with h0 | ⟨b, off, rfl, hc⟩
  · omega
  have hmf : ∀ (fn : Fn) (first cap : Array Value) (w : World), (Instr.makeFunc fn first cap).run Try.prog w = .ok (.func fn first cap) w := fun _ _ _ _ => rfl
  have hb : br < w.heap.size := World.block_lt_of_cell? w _ hp
  have hb1 : w.heap.size ≠ br := by omega
  have hb2 : w.heap.size + 1 ≠ br := by omega
  have hbb : b < w.heap.size := World.block_lt_of_cell? w _ (hc k hk).1
  have Hp : Hid (w.cell? ⟨br, 4, none⟩ = some (.slice (some ⟨b, off, none⟩) n c)) := hp
  have Hc : Hid (∀ i, i < n → w.cell? ⟨b, off + i * 2, none⟩ = some (.string (s i)) ∧ w.cell? ⟨b, off + i * 2 + 1, none⟩ = some (.int .i64 (g i))) := hc
  have H1 : Hid (same (s k) st = true) := h1
  have H2 : Hid (∀ j, j < k → same (s j) st = false) := h2
  clear hc h1 h2
  go_enter Try.func8, Try.ntmps8
  go_wp2_with fail
  clear hp hmf
  refine (idx_yes _ _ _ s g st _ k (two w st) hn (Rw.later (.inr ⟨b, off, rfl, Hc.out⟩) (two_below w st)) (by simp [two]) hk H1.out H2.out).mono ?_
  rintro e w1 ⟨rfl, hB⟩
  obtain ⟨z0, z1, y0, y1, hz⟩ := two_facts w w1 st hB
  have hBB : Below w.heap.size w w1 := (two_below w st).trans (hB.mono (two_below w st).size)
  have p1 := cell_later hBB Hp.out
  have c0 := cell_later hBB (Hc.out k hk).1
  have c1 := cell_later hBB (Hc.out k hk).2
  have HB : Hid (Below w.heap.size w w1) := hBB
  clear hB hBB
  have hne : ¬ (w.heap.size + 1 = b) := by omega
  go_wp2
  refine bodyPost_ret (v := .tuple #[.agg #[.string (s k), .int .i64 (g k)], .bool true]) ?_ rfl ⟨rfl, ?_⟩
  · simp [results, Try.results8, go_sem, z0, z1]
  · exact (HB.out.setCell (by simp) _).setCell (by simp) _

set_option maxHeartbeats 400000 in
theorem rep_no (br : Nat) (a : Option Addr) (n c : Nat) (s : Nat → ByteArray) (g : Nat → Int) (st : ByteArray) (w : World) (hn : n ≤ 1000000) (hr : Rw w a n s g) (hp : w.cell? ⟨br, 4, none⟩ = some (.slice a n c))
    (h2 : ∀ j, j < n → same (s j) st = false) :
    Calls Try.prog 8 #[.pointer (some ⟨br, 0, none⟩), .string st] w fun e w' => e = .returned (.tuple #[.agg #[.string ⟨#[]⟩, .int .i64 0], .bool false]) ∧ Below w.heap.size w w' := by
  have hmf : ∀ (fn : Fn) (first cap : Array Value) (w : World), (Instr.makeFunc fn first cap).run Try.prog w = .ok (.func fn first cap) w := fun _ _ _ _ => rfl
  have hb : br < w.heap.size := World.block_lt_of_cell? w _ hp
  have hb1 : w.heap.size ≠ br := by omega
  have hb2 : w.heap.size + 1 ≠ br := by omega
  have Hr : Hid (Rw w a n s g) := hr
  have H2 : Hid (∀ j, j < n → same (s j) st = false) := h2
  clear hr h2
  go_enter Try.func8, Try.ntmps8
  go_wp2_with fail
  clear hp hmf
  refine (idx_no _ _ _ s g st _ (two w st) hn (Hr.out.later (two_below w st)) (by simp [two]) H2.out).mono ?_
  rintro e w1 ⟨rfl, hB⟩
  obtain ⟨z0, z1, y0, y1, hz⟩ := two_facts w w1 st hB
  have HB : Hid (Below w.heap.size w w1) := (two_below w st).trans (hB.mono (two_below w st).size)
  clear hB
  go_wp2
  refine bodyPost_ret (v := .tuple #[.agg #[.string ⟨#[]⟩, .int .i64 0], .bool false]) ?_ rfl ⟨rfl, ?_⟩
  · simp [results, Try.results8, go_sem, z0, z1]
  · exact (HB.out.setCell (by simp) _).setCell (by simp) _
end Go.Proofs.Qxb6628976a
