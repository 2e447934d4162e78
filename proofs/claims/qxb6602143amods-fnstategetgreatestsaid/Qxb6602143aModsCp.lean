/-
  Copies in progress: a new block whose first m cells are laid.
-/
import Derived.Test.Qxb6602143aModsSt
namespace Go.Proofs.Qxb6602143aMods.St
open Go.ChangeShapes Go.WideShapes Go.ChangeAt Go.RowKit
set_option linter.unusedVariables false

theorem info9 : (Trym.prog.info? 9).map (fun i => (i.zero, i.size, i.bytes)) = some (some (.string ByteArray.empty), 1, 16) := by kernel_rfl
theorem info33 : (Trym.prog.info? 33).map (fun i => (i.zero, i.size, i.bytes)) = some (some (.slice none 0 0), 1, 24) := by kernel_rfl

/-- What a copy's block holds when the first m of its n cells are laid. -/
def Part (e : TypeId) (w wr : World) (n : Nat) (g : Nat → Value) (m : Nat) : Prop :=
  ∃ xs, wr.ownsRow w.heap.size e 1 (.slice (some ⟨w.heap.size, 0, none⟩) n n) n xs ∧ Below w.heap.size w wr ∧ w.heap.size < wr.heap.size ∧ ∀ j, j < m → xs[j]? = some (g j)

theorem Part.start {e : TypeId} {w : World} {n : Nat} {g : Nat → Value} (z : Value) (hn : n ≤ 1048576) : Part e w (w.alloc (.cells (madeCells #[z] n) e)) n g 0 :=
  ⟨_, World.ownsRow_lit w _ n (Nat.le_refl _) (by unfold maxLen; omega) (by simp [size_madeCells]), (Below.refl _ _).alloc (Nat.le_refl _) _, by simp, fun j hj => absurd hj (by omega)⟩
theorem Part.cell {e : TypeId} {w wr : World} {n : Nat} {g : Nat → Value} {m : Nat} (h : Part e w wr n g m) (hm : m < n) : ∃ v, wr.cell? ⟨w.heap.size, m, none⟩ = some v := by
  obtain ⟨xs, ho, _, _, _⟩ := h
  have hl := ho.1
  exact ⟨xs[m]'(by omega), by rw [ho.cellAt m (by omega)]; simp⟩
theorem Part.free {e : TypeId} {w wr : World} {n : Nat} {g : Nat → Value} {m : Nat} (h : Part e w wr n g m) (j : Nat) : wr.frozen? ⟨w.heap.size, j, none⟩ = false := by
  obtain ⟨xs, ho, _, _, _⟩ := h
  exact ho.frozenAt j
theorem Part.below {e : TypeId} {w wr : World} {n : Nat} {g : Nat → Value} {m : Nat} (h : Part e w wr n g m) : Below w.heap.size w wr := by
  obtain ⟨xs, _, hb, _, _⟩ := h
  exact hb
theorem Part.next {e : TypeId} {w wr : World} {n : Nat} {g : Nat → Value} {m : Nat} (h : Part e w wr n g m) (hm : m < n) : Part e w (wr.setCell ⟨w.heap.size, m, none⟩ (g m)) n g (m + 1) := by
  obtain ⟨xs, ho, hb, hz, hx⟩ := h
  have hl := ho.1
  refine ⟨_, (ho.stored m _).1, hb.setCell (Nat.le_refl _) _, by simpa using hz, fun j hj => ?_⟩
  rw [List.getElem?_set]
  by_cases hjm : m = j
  · subst hjm
    rw [if_pos rfl, if_pos (by omega)]
  · rw [if_neg hjm]
    exact hx j (by omega)
theorem Part.done {e : TypeId} {w wr : World} {n : Nat} {g : Nat → Value} (h : Part e w wr n g n) : w.heap.size < wr.heap.size ∧ ∀ i, i < n → wr.cell? ⟨w.heap.size, i, none⟩ = some (g i) := by
  obtain ⟨xs, ho, hb, hz, hx⟩ := h
  exact ⟨hz, fun i hi => by rw [ho.cellAt i (by omega)]; exact hx i hi⟩
theorem Part.row {w wr : World} {n : Nat} {K : Nat → ByteArray} (h : Part 9 w wr n (fun i => .string (K i)) n) : StrRow wr (some ⟨w.heap.size, 0, none⟩) n K :=
  .inr ⟨w.heap.size, 0, rfl, h.done.1, fun i hi => by rw [Nat.zero_add]; exact h.done.2 i hi⟩

/-- A slice of strings that lies in a block behind block B. -/
def Far (wr : World) (B : Nat) (n : Nat) (K : Nat → ByteArray) (v : Value) : Prop :=
  ∃ a c, v = .slice a n c ∧ (a = none → n = 0 ∧ c = 0) ∧ (n = 0 ∨ ∃ b off, a = some ⟨b, off, none⟩ ∧ B < b ∧ b < wr.heap.size ∧ ∀ i, i < n → wr.cell? ⟨b, off + i, none⟩ = some (.string (K i)))
theorem Far.later {wr w' : World} {B n : Nat} {K : Nat → ByteArray} {v : Value} (h : Far wr B n K v) (hs : wr.heap.size ≤ w'.heap.size) (hb : ∀ b, B < b → b < wr.heap.size → w'.heap[b]? = wr.heap[b]?) : Far w' B n K v := by
  obtain ⟨a, c, h1, h2, h3⟩ := h
  refine ⟨a, c, h1, h2, ?_⟩
  rcases h3 with h3 | ⟨b, off, ha, hB, hlt, hc⟩
  · exact .inl h3
  · exact .inr ⟨b, off, ha, hB, Nat.lt_of_lt_of_le hlt hs, fun i hi => (World.cell?_of_block (w := wr) (a := ⟨b, off + i, none⟩) (hb b hB hlt)).trans (hc i hi)⟩

/-- What the copy of the values holds when the first m slices are laid: B, its block. -/
def VPart (w wr : World) (n : Nat) (ln : Nat → Nat) (V : Nat → Nat → ByteArray) (m : Nat) : Prop :=
  ∃ xs, wr.ownsRow w.heap.size 33 1 (.slice (some ⟨w.heap.size, 0, none⟩) n n) n xs ∧ Below w.heap.size w wr ∧ w.heap.size < wr.heap.size ∧
    (∀ j, j < m → ∃ v, xs[j]? = some v ∧ Far wr w.heap.size (ln j) (V j) v) ∧ ∀ j, m ≤ j → j < n → xs[j]? = some (.slice none 0 0)
theorem VPart.start {w : World} {n : Nat} {ln : Nat → Nat} {V : Nat → Nat → ByteArray} (hn : n ≤ 1048576) : VPart w (w.alloc (.cells (madeCells #[.slice none 0 0] n) 33)) n ln V 0 :=
  ⟨_, World.ownsRow_lit w _ n (Nat.le_refl _) (by unfold maxLen; omega) (by simp [size_madeCells]), (Below.refl _ _).alloc (Nat.le_refl _) _, by simp, fun j hj => absurd hj (by omega),
    fun j _ hj => by rw [toList_madeCells_one]; simp [hj]⟩
theorem VPart.cell {w wr : World} {n : Nat} {ln : Nat → Nat} {V : Nat → Nat → ByteArray} {m : Nat} (h : VPart w wr n ln V m) (hm : m < n) : wr.cell? ⟨w.heap.size, m, none⟩ = some (.slice none 0 0) := by
  obtain ⟨xs, ho, _, _, _, hx⟩ := h
  rw [ho.cellAt m (by omega)]
  exact hx m (Nat.le_refl _) hm
theorem VPart.free {w wr : World} {n : Nat} {ln : Nat → Nat} {V : Nat → Nat → ByteArray} {m : Nat} (h : VPart w wr n ln V m) (j : Nat) : wr.frozen? ⟨w.heap.size, j, none⟩ = false := by
  obtain ⟨xs, ho, _⟩ := h
  exact ho.frozenAt j
theorem VPart.below {w wr : World} {n : Nat} {ln : Nat → Nat} {V : Nat → Nat → ByteArray} {m : Nat} (h : VPart w wr n ln V m) : Below w.heap.size w wr := by
  obtain ⟨xs, _, hb, _⟩ := h
  exact hb
theorem VPart.lt {w wr : World} {n : Nat} {ln : Nat → Nat} {V : Nat → Nat → ByteArray} {m : Nat} (h : VPart w wr n ln V m) : w.heap.size < wr.heap.size := by
  obtain ⟨xs, _, _, hz, _⟩ := h
  exact hz
/-- A slice that is nil stays nil. -/
theorem VPart.skip {w wr : World} {n : Nat} {ln : Nat → Nat} {V : Nat → Nat → ByteArray} {m : Nat} (h : VPart w wr n ln V m) (hm : m < n) (h0 : ln m = 0) : VPart w wr n ln V (m + 1) := by
  obtain ⟨xs, ho, hb, hz, hx, hy⟩ := h
  refine ⟨xs, ho, hb, hz, fun j hj => ?_, fun j h1 h2 => hy j (by omega) h2⟩
  rcases Nat.lt_or_eq_of_le (Nat.le_of_lt_succ hj) with h | rfl
  · exact hx j h
  · exact ⟨_, hy j (Nat.le_refl _) hm, none, 0, by rw [h0], fun _ => ⟨h0, rfl⟩, .inl h0⟩
/-- A slice is laid: it has been copied in new memory (w2), then stored. -/
theorem VPart.next {w wr w2 : World} {n : Nat} {ln : Nat → Nat} {V : Nat → Nat → ByteArray} {m : Nat} (h : VPart w wr n ln V m) (hm : m < n) (hp : Part 9 wr w2 (ln m) (fun i => .string (V m i)) (ln m)) :
    VPart w (w2.setCell ⟨w.heap.size, m, none⟩ (.slice (some ⟨wr.heap.size, 0, none⟩) (ln m) (ln m))) n ln V (m + 1) := by
  obtain ⟨xs, ho, hb, hz, hx, hy⟩ := h
  have hb2 := hp.below
  have hd := hp.done
  have hl := ho.1
  have ho2 : w2.ownsRow w.heap.size 33 1 (.slice (some ⟨w.heap.size, 0, none⟩) n n) n xs := by
    refine ⟨ho.1, ?_⟩
    rcases ho.2 with h2 | ⟨g, cap, cur, hv, hg, hh, r⟩
    · exact .inl h2
    · refine .inr ⟨g, cap, cur, hv, hg, ?_, r⟩
      have hlt : g < wr.heap.size := by
        rw [Array.getElem?_eq_some_iff] at hh
        exact hh.1
      rw [hb2.block g hlt]
      exact hh
  refine ⟨_, (ho2.stored m _).1, (hb.trans (hb2.mono hb.size)).setCell (Nat.le_refl _) _, by simp; have := hb2.size; omega, fun j hj => ?_, fun j h1 h2 => ?_⟩
  · by_cases hjm : m = j
    · subst hjm
      refine ⟨.slice (some ⟨wr.heap.size, 0, none⟩) (ln m) (ln m), ?_, _, _, rfl, (fun h => by cases h), ?_⟩
      · rw [List.getElem?_set, if_pos rfl, if_pos (by omega)]
      · refine .inr ⟨wr.heap.size, 0, rfl, hz, by simp; exact hd.1, fun i hi => ?_⟩
        rw [Nat.zero_add]
        rw [World.cell?_of_block (w := w2) (Below.heap_setCell _ _ _ _ (by simp; omega))]
        exact hd.2 i hi
    · obtain ⟨v, hv, hF⟩ := hx j (by omega)
      refine ⟨v, by rw [List.getElem?_set, if_neg hjm]; exact hv, hF.later (by simp; exact hb2.size) (fun b hB hlt => ?_)⟩
      rw [Below.heap_setCell _ _ _ _ (by simp; omega)]
      exact hb2.block b hlt
  · rw [List.getElem?_set, if_neg (by omega)]
    exact hy j (by omega) h2
theorem VPart.row {w wr : World} {n : Nat} {ln : Nat → Nat} {V : Nat → Nat → ByteArray} (h : VPart w wr n ln V n) : ValRow wr (some ⟨w.heap.size, 0, none⟩) n ln V := by
  obtain ⟨xs, ho, hb, hz, hx, _⟩ := h
  refine .inr ⟨w.heap.size, 0, rfl, hz, fun i hi => ?_⟩
  obtain ⟨v, hv, a, c, rfl, h2, h3⟩ := hx i hi
  refine ⟨a, c, by rw [Nat.zero_add, ho.cellAt i (by omega)]; exact hv, h2, ?_⟩
  rcases h3 with h3 | ⟨b, off, ha, _, hlt, hc⟩
  · exact .inl h3
  · exact .inr ⟨b, off, ha, hlt, hc⟩
end Go.Proofs.Qxb6602143aMods.St
