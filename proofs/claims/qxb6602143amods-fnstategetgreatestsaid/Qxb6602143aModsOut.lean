/-
  'FnStateGetGreatest' (7) outside its domain; and the two slices that come in, opened.
-/
import Derived.Test.Qxb6602143aModsGr
import Derived.Deep.Strs
namespace Go.Proofs.Qxb6602143aMods.St
open Go.ChangeShapes Go.WideShapes Go.ChangeAt Go.RowKit Go.Deep
set_option linter.unusedVariables false

set_option maxRecDepth 100000 in
/-- Outside the domain the law says true by its own text. -/
theorem great_out (a0 : Option Addr) (n0 c0 : Nat) (a1 : Option Addr) (n1 c1 : Nat) (s : ByteArray) (K : Nat → ByteArray) (ln : Nat → Nat) (V : Nat → Nat → ByteArray) (w : World)
    (m0 : n0 ≤ 9223372036854775807) (m1 : n1 ≤ 9223372036854775807) (m2 : s.size ≤ 9223372036854775807) (hl : ∀ i, i < n1 → ln i ≤ 9223372036854775807) (h0 : StrRow w a0 n0 K) (h1 : ValRow w a1 n1 ln V)
    (h : 1048576 < s.size ∨ (s.size ≤ 1048576 ∧ 65536 < n0) ∨ (s.size ≤ 1048576 ∧ n0 ≤ 65536 ∧ 65536 < n1) ∨ (s.size ≤ 1048576 ∧ n0 ≤ 65536 ∧ n1 ≤ 65536 ∧ 1048576 < s.size + 16 * n0 + 24 * n1)) :
    Calls Trym.prog 7 #[.slice a0 n0 c0, .slice a1 n1 c1, .string s] w fun e w' => e = .returned (.bool true) ∧ Below w.heap.size w w' := by
  have HL : Hid (∀ i, i < n1 → ln i ≤ 9223372036854775807) := hl
  clear hl
  rcases h with h | ⟨h, h'⟩ | ⟨h, h', h''⟩ | ⟨h, h', h'', h3⟩
  all_goals
    go_enter Trym.func7, Trym.ntmps7
    go_wp2_with fail
    refine (zz17 a0 n0 c0 a1 n1 c1 s K ln V _ m0 m1 HL.out h0 h1).mono ?_
    rintro e w ⟨⟨b, rfl⟩, rfl⟩
    clear h0 h1
    cases b
    all_goals
      go_wp2
      go_ret
      exact ⟨rfl, Below.refl _ _⟩

section
variable {H : Type} {enc : TypeId × Value → H} {W : World}

theorem row_of_cells {w : World} {x : Addr} {n : Nat} {K : Nat → ByteArray} (h : ∀ i, i < n → w.cell? (x.add i) = some (.string (K i))) : StrRow w (some x) n K := by
  by_cases h0 : n = 0
  · exact .inl h0
  · obtain ⟨b, off, spot⟩ := x
    have h1 := h 0 (by omega)
    obtain rfl : spot = none := by simpa [Addr.add] using World.cell?_spot h1
    exact .inr ⟨b, off, rfl, World.block_lt_of_cell? _ _ h1, fun i hi => by rw [← add_plain]; exact h i hi⟩

/-- A slice of strings that came in. -/
theorem open_keys {fuel : Nat} {v : Value} {a : Option Addr} {len cap : Nat} {x : DataW H × List MemPlace} (hv : v = .slice a len cap) (h : DataW.trod enc Trym.prog W 0 (fun _ => true) true fuel 33 [v] = some x) :
    ∃ K, StrRow W a len K ∧ (a = none → len = 0 ∧ cap = 0) ∧ len ≤ 9223372036854775807 ∧ ∀ i, i < len → (K i).size ≤ maxLen := by
  subst hv
  rcases open_strs Trym.underlying33 Trym.underlying9 (by kernel_rfl) h with ⟨hcs, _⟩ | ⟨a', len', cap', m, Sx, hcs, _, hl, hm, hmm, _, hx⟩
  · simp at hcs
    obtain ⟨rfl, rfl, rfl⟩ := hcs
    exact ⟨fun _ => ByteArray.empty, .inl rfl, fun _ => ⟨rfl, rfl⟩, by omega, fun i hi => absurd hi (by omega)⟩
  · simp at hcs
    obtain ⟨rfl, rfl, rfl⟩ := hcs
    simp only [if_true] at hmm
    subst hmm
    unfold maxLen at hm
    exact ⟨Sx, row_of_cells (fun i hi => (hx i (by omega)).1), (fun h => by cases h), by omega, fun i hi => (hx i (by omega)).2⟩

/-- A slice of slices of strings that came in. -/
theorem open_vals {fuel : Nat} {v : Value} {a : Option Addr} {len cap : Nat} {x : DataW H × List MemPlace} (hv : v = .slice a len cap) (h : DataW.trod enc Trym.prog W 0 (fun _ => true) true fuel 34 [v] = some x) :
    ∃ ln V, ValRow W a len ln V ∧ (a = none → len = 0 ∧ cap = 0) ∧ len ≤ 9223372036854775807 ∧ ∀ i, i < len → ln i ≤ 9223372036854775807 := by
  subst hv
  rcases open_slice1 Trym.underlying34 (by kernel_rfl) h with ⟨hcs, _⟩ | ⟨a', len', cap', m, n, Vl, D, Pl, hcs, _, hl, hm, hmm, _, hx⟩
  · simp at hcs
    obtain ⟨rfl, rfl, rfl⟩ := hcs
    exact ⟨fun _ => 0, fun _ _ => ByteArray.empty, .inl rfl, fun _ => ⟨rfl, rfl⟩, by omega, fun i hi => absurd hi (by omega)⟩
  · simp at hcs
    obtain ⟨rfl, rfl, rfl⟩ := hcs
    simp only [if_true] at hmm
    subst hmm
    unfold maxLen at hm
    have each : ∀ i, i < len → ∃ y : Option Addr × Nat × Nat × (Nat → ByteArray), Vl i = .slice y.1 y.2.1 y.2.2.1 ∧ StrRow W y.1 y.2.1 y.2.2.2 ∧ (y.1 = none → y.2.1 = 0 ∧ y.2.2.1 = 0) ∧ y.2.1 ≤ 9223372036854775807 := by
      intro i hi
      rcases open_strs Trym.underlying33 Trym.underlying9 (by kernel_rfl) (hx i (by omega)).2 with ⟨hcs, _⟩ | ⟨a2, len2, cap2, m2, Sx, hcs, _, hl2, hm2, hmm2, _, hx2⟩
      · exact ⟨(none, 0, 0, fun _ => ByteArray.empty), by simpa using hcs, .inl rfl, fun _ => ⟨rfl, rfl⟩, by simp⟩
      · simp only [if_true] at hmm2
        subst hmm2
        unfold maxLen at hm2
        exact ⟨(some a2, len2, m2, Sx), by simpa using hcs, row_of_cells (fun t ht => (hx2 t (Nat.lt_of_lt_of_le ht hl2)).1), (fun h => by cases h), by simp; omega⟩
    obtain ⟨y, hy⟩ := choose_lt (α := Option Addr × Nat × Nat × (Nat → ByteArray)) each
    refine ⟨fun i => (y i).2.1, fun i => (y i).2.2.2, ?_, (fun h => by cases h), by omega, fun i hi => (hy i hi).2.2.2⟩
    by_cases h0 : len = 0
    · exact .inl h0
    · obtain ⟨b, off, spot⟩ := a'
      have h1 := (hx 0 (by omega)).1
      obtain rfl : spot = none := by simpa [Addr.add] using World.cell?_spot h1
      refine .inr ⟨b, off, rfl, World.block_lt_of_cell? _ _ h1, fun i hi => ⟨(y i).1, (y i).2.2.1, ?_, (hy i hi).2.2.1, (hy i hi).2.1⟩⟩
      rw [← add_plain, (hx i (by omega)).1, (hy i hi).1]
end
end Go.Proofs.Qxb6602143aMods.St
