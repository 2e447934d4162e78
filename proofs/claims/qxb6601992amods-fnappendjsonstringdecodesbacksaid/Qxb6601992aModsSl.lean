/-
  The contracts of the small helpers of package zzlaws_internal_manifest_b1 over slices of numbers: a slice is told by its length n and a function f: cell i holds f i.
-/
import Derived.Test.Qxb6601992aModsEnc
import Derived.WalkKit
import Derived.WalkSpells
import Derived.ProofKit
import Derived.Outline
import Derived.RegionTactic
import Derived.ChangeAlike
import Derived.Deep.QuietTactic
import Derived.BigQuiet
import Derived.RowKit3
import Derived.WalkSmall
import Derived.Deep.OwnRows
import Derived.Lib.SliceRun
namespace Go.Proofs.Qxb6601992aMods.Js
open Go.ChangeShapes Go.WideShapes Go.ChangeAt Go.RowKit
set_option linter.unusedVariables false

/-- What a slice's elements are: n of them, element i is f i. -/
def Row (k : IntKind) (w : World) (a : Option Addr) (n : Nat) (f : Nat → Int) : Prop :=
  n = 0 ∨ ∃ b off, a = some ⟨b, off, none⟩ ∧ b < w.heap.size ∧ ∀ i, i < n → w.cell? ⟨b, off + i, none⟩ = some (.int k (f i))

theorem Row.later {k : IntKind} {w w' : World} {a : Option Addr} {n : Nat} {f : Nat → Int} (h : Row k w a n f) (hb : Below w.heap.size w w') : Row k w' a n f := by
  rcases h with h | ⟨b, off, ha, hlt, hc⟩
  · exact .inl h
  · exact .inr ⟨b, off, ha, Nat.lt_of_lt_of_le hlt hb.size, fun i hi => (hb.cell (p := ⟨b, off + i, none⟩) hlt).trans (hc i hi)⟩

/-- A slice that came in, as a row (what the frame tells of it). -/
theorem row_of {k : IntKind} {w : World} {a : Option Addr} {len cap : Nat} {zs : List Int} (h : (a = none ∧ len = 0 ∧ cap = 0 ∧ zs = []) ∨
    ∃ x, a = some x ∧ len ≤ cap ∧ cap ≤ maxLen ∧ zs.length = cap ∧ (∀ i, i < zs.length → w.cell? (x.add i) = some (.int k (zs.getD i 0))) ∧ ∀ n ∈ zs, (Lit.int k n).wf = true) :
    Row k w a len (fun i => zs.getD i 0) ∧ (a = none → len = 0 ∧ cap = 0) ∧ len ≤ cap ∧ cap ≤ 9223372036854775807 := by
  rcases h with ⟨rfl, rfl, rfl, rfl⟩ | ⟨x, rfl, hl, hm, hz, hc, _⟩
  · exact ⟨.inl rfl, fun _ => ⟨rfl, rfl⟩, Nat.le_refl _, by omega⟩
  · refine ⟨?_, (fun h => by cases h), hl, hm⟩
    by_cases h0 : len = 0
    · exact .inl h0
    · obtain ⟨b, off, spot⟩ := x
      have h1 := hc 0 (by omega)
      obtain rfl : spot = none := by simpa [Addr.add] using World.cell?_spot h1
      exact .inr ⟨b, off, rfl, World.block_lt_of_cell? _ _ h1, fun i hi => by rw [← add_plain]; exact hc i (by omega)⟩

/-! ### equalBytes: of two slices of the same bytes it says true -/
set_option maxHeartbeats 400000 in
theorem equal_some (b off c0 b' off' c1 n : Nat) (f : Nat → Int) (w : World) (hn : n ≤ 9223372036854775807) (hc : ∀ i, i < n → w.cell? ⟨b, off + i, none⟩ = some (.int .u8 (f i))) (hd : ∀ i, i < n → w.cell? ⟨b', off' + i, none⟩ = some (.int .u8 (f i))) :
    Calls Trym.prog 12 #[.slice (some ⟨b, off, none⟩) n c0, .slice (some ⟨b', off', none⟩) n c1] w fun e w' => e = .returned (.bool true) ∧ ∃ m, w' = w.drewN m := by
  go_enter Trym.func12, Trym.ntmps12
  go_wp2
  go_loopw [5] (fun i wr => ∃ k : Nat, k ≤ n ∧ i = .int .i64 k ∧ ∃ m, wr = w.drewN m) (fun i _ => n - (intOf i).toNat)
  case atStart => exact ⟨0, Nat.zero_le _, rfl, 0, rfl⟩
  case round =>
    obtain ⟨k, hk, rfl, m, rfl⟩ := hrel
    by_cases hlt : k < n
    · have hck := hc k hlt
      have hdk := hd k hlt
      have hi : (k : Int) < (n : Int) := by omega
      clear hc hd
      go_wp2
      go_quiet (fail)
      go_wp2
      go_roundw
      case rel => exact ⟨k + 1, by omega, by go_num, _, rfl⟩
      case measure => simp [intOf]; omega
    · go_wp2
      go_ret
      exact ⟨rfl, _, rfl⟩

set_option maxHeartbeats 400000 in
theorem equal_none (a0 : Option Addr) (c0 : Nat) (a1 : Option Addr) (c1 : Nat) (w : World) :
    Calls Trym.prog 12 #[.slice a0 0 c0, .slice a1 0 c1] w fun e w' => e = .returned (.bool true) ∧ ∃ m, w' = w.drewN m := by
  go_enter Trym.func12, Trym.ntmps12
  go_wp2
  refine wp_loop_rounds 1 ?_
  rw [rounds_succ]
  go_wp2
  go_ret
  exact ⟨rfl, 0, rfl⟩

theorem equal_any (a0 : Option Addr) (c0 : Nat) (a1 : Option Addr) (c1 n : Nat) (f g : Nat → Int) (w : World) (hn : n ≤ 9223372036854775807) (h0 : Row .u8 w a0 n f) (h1 : Row .u8 w a1 n g) (he : ∀ i, i < n → f i = g i) :
    Calls Trym.prog 12 #[.slice a0 n c0, .slice a1 n c1] w fun e w' => e = .returned (.bool true) ∧ ∃ m, w' = w.drewN m := by
  rcases h0 with rfl | ⟨b, off, rfl, _, hc⟩
  · exact equal_none a0 c0 a1 c1 w
  · rcases h1 with rfl | ⟨b', off', rfl, _, hd⟩
    · exact equal_none _ c0 a1 c1 w
    · exact equal_some b off c0 b' off' c1 n f w hn hc (fun i hi => by rw [he i hi]; exact hd i hi)

/-! ### cloneBytes, cloneInts -/

/-- What a copy's block holds when the first m of its n cells are laid. -/
def Part (k : IntKind) (e : TypeId) (w wr : World) (n : Nat) (f : Nat → Int) (m : Nat) : Prop :=
  ∃ xs, wr.ownsRow w.heap.size e 1 (.slice (some ⟨w.heap.size, 0, none⟩) n n) n xs ∧ Below w.heap.size w wr ∧ w.heap.size < wr.heap.size ∧ ∀ j, j < m → xs[j]? = some (.int k (f j))

theorem Part.start {k : IntKind} {e : TypeId} {w : World} {n : Nat} {f : Nat → Int} (z : Value) (hn : n ≤ 1048576) : Part k e w (w.alloc (.cells (madeCells #[z] n) e)) n f 0 :=
  ⟨_, World.ownsRow_lit w _ n (Nat.le_refl _) (by unfold maxLen; omega) (by simp [size_madeCells]), (Below.refl _ _).alloc (Nat.le_refl _) _, by simp, fun j hj => absurd hj (by omega)⟩

theorem Part.cell {k : IntKind} {e : TypeId} {w wr : World} {n : Nat} {f : Nat → Int} {m : Nat} (h : Part k e w wr n f m) (hm : m < n) : ∃ v, wr.cell? ⟨w.heap.size, m, none⟩ = some v := by
  obtain ⟨xs, ho, _, _, _⟩ := h
  have hl := ho.1
  exact ⟨xs[m]'(by omega), by rw [ho.cellAt m (by omega)]; simp⟩

theorem Part.free {k : IntKind} {e : TypeId} {w wr : World} {n : Nat} {f : Nat → Int} {m : Nat} (h : Part k e w wr n f m) (j : Nat) : wr.frozen? ⟨w.heap.size, j, none⟩ = false := by
  obtain ⟨xs, ho, _, _, _⟩ := h
  exact ho.frozenAt j

theorem Part.old {k : IntKind} {e : TypeId} {w wr : World} {n : Nat} {f : Nat → Int} {m b o : Nat} (h : Part k e w wr n f m) (hb : b < w.heap.size) : wr.cell? ⟨b, o, none⟩ = w.cell? ⟨b, o, none⟩ := by
  obtain ⟨xs, _, hb', _, _⟩ := h
  exact hb'.cell (p := ⟨b, o, none⟩) hb

theorem Part.next {k : IntKind} {e : TypeId} {w wr : World} {n : Nat} {f : Nat → Int} {m : Nat} (h : Part k e w wr n f m) (hm : m < n) : Part k e w (wr.setCell ⟨w.heap.size, m, none⟩ (.int k (f m))) n f (m + 1) := by
  obtain ⟨xs, ho, hb, hz, hx⟩ := h
  have hl := ho.1
  refine ⟨_, (ho.stored m _).1, hb.setCell (Nat.le_refl _) _, by simpa using hz, fun j hj => ?_⟩
  rw [List.getElem?_set]
  by_cases hjm : m = j
  · subst hjm
    rw [if_pos rfl, if_pos (by omega)]
  · rw [if_neg hjm]
    exact hx j (by omega)

/-- The copy. -/
def Cloned (k : IntKind) (w w' : World) (n : Nat) (f : Nat → Int) : Prop := Below w.heap.size w w' ∧ w.heap.size < w'.heap.size ∧ ∀ i, i < n → w'.cell? ⟨w.heap.size, i, none⟩ = some (.int k (f i))

theorem Part.done {k : IntKind} {e : TypeId} {w wr : World} {n : Nat} {f : Nat → Int} (h : Part k e w wr n f n) : Cloned k w wr n f := by
  obtain ⟨xs, ho, hb, hz, hx⟩ := h
  exact ⟨hb, hz, fun i hi => by rw [ho.cellAt i (by omega)]; exact hx i hi⟩

set_option maxHeartbeats 400000 in
theorem clone10_some (b off n c : Nat) (f : Nat → Int) (w : World) (hn : n ≤ 1048576) (hb : b < w.heap.size) (hc : ∀ i, i < n → w.cell? ⟨b, off + i, none⟩ = some (.int .u8 (f i))) :
    Calls Trym.prog 10 #[.slice (some ⟨b, off, none⟩) n c] w fun e w' => e = .returned (.slice (some ⟨w.heap.size, 0, none⟩) n n) ∧ Cloned .u8 w w' n f := by
  have hmk := fun (w : World) => run_make_row' (P := Trym.prog) 22 5 (.int .u8 0) 1 Trym.underlying22 info5 rfl .i64 .i64 n (by omega) (by omega) w
  have hq := fun (w : World) (a : Option Addr) (n c n' c' : Nat) => Lib.run_eql_slice_nil (P := Trym.prog) w 22 5 a n c n' c' Trym.underlying22
  go_enter Trym.func10, Trym.ntmps10
  go_wp2
  go_loopw [4] (fun i wr => ∃ m : Nat, m ≤ n ∧ i = .int .i64 m ∧ Part .u8 5 w wr n f m) (fun i _ => n - (intOf i).toNat)
  case atStart => exact ⟨0, Nat.zero_le _, rfl, Part.start _ hn⟩
  case round =>
    obtain ⟨m, hm, rfl, hp⟩ := hrel
    by_cases hlt : m < n
    · have h1 := (hp.old (o := off + m) hb).trans (hc m hlt)
      obtain ⟨v, h2⟩ := hp.cell hlt
      have h3 := hp.free m
      have HN := hp.next hlt
      clear hmk hq hc hp
      go_wp2
      go_roundw
      case rel => exact ⟨m + 1, by omega, by go_num, HN⟩
      case measure => simp [intOf]; omega
    · obtain rfl : m = n := by omega
      clear hmk hq
      go_wp2
      go_ret
      exact ⟨rfl, hp.done⟩

set_option maxHeartbeats 400000 in
theorem clone10_empty (x : Addr) (c : Nat) (f : Nat → Int) (w : World) :
    Calls Trym.prog 10 #[.slice (some x) 0 c] w fun e w' => e = .returned (.slice (some ⟨w.heap.size, 0, none⟩) 0 0) ∧ Cloned .u8 w w' 0 f := by
  have hmk := fun (w : World) => run_make_row' (P := Trym.prog) 22 5 (.int .u8 0) 1 Trym.underlying22 info5 rfl .i64 .i64 0 (by omega) (by omega) w
  have hq := fun (w : World) (a : Option Addr) (n c n' c' : Nat) => Lib.run_eql_slice_nil (P := Trym.prog) w 22 5 a n c n' c' Trym.underlying22
  have hmk' := fun (w : World) => (hmk w).trans rfl
  simp only [Int.natCast_zero] at hmk'
  have fin : Cloned .u8 w (w.alloc (.cells (madeCells #[.int .u8 0] 0) 5)) 0 f := ⟨(Below.refl _ _).alloc (Nat.le_refl _) _, by simp, fun i hi => absurd hi (by omega)⟩
  go_enter Trym.func10, Trym.ntmps10
  go_wp2
  refine wp_loop_rounds 1 ?_
  rw [rounds_succ]
  go_wp2
  go_ret
  exact ⟨rfl, fin⟩

theorem clone10_nil (w : World) :
    Calls Trym.prog 10 #[.slice none 0 0] w fun e w' => e = .returned (.slice none 0 0) ∧ w' = w := by
  have hq := fun (w : World) (a : Option Addr) (n c n' c' : Nat) => Lib.run_eql_slice_nil (P := Trym.prog) w 22 5 a n c n' c' Trym.underlying22
  go_enter Trym.func10, Trym.ntmps10
  go_wp2
  go_ret
  exact ⟨rfl, rfl⟩

/-- Whatever slice it is: a slice of the same elements comes back; nothing old has turned. -/
theorem clone10_any (a : Option Addr) (n c : Nat) (f : Nat → Int) (w : World) (hn : n ≤ 1048576) (h0 : a = none → n = 0 ∧ c = 0) (h : Row .u8 w a n f) :
    Calls Trym.prog 10 #[.slice a n c] w fun e w' => ∃ a', e = .returned (.slice a' n n) ∧ (a' = none → n = 0) ∧ Row .u8 w' a' n f ∧ Below w.heap.size w w' := by
  match a, h0, h with
  | none, h0, h =>
    obtain ⟨rfl, rfl⟩ := h0 rfl
    refine (clone10_nil w).mono ?_
    rintro e w' ⟨rfl, rfl⟩
    exact ⟨none, rfl, fun _ => rfl, .inl rfl, Below.refl _ _⟩
  | some x, _, h =>
    rcases h with rfl | ⟨b, off, hx, hb, hc⟩
    · refine (clone10_empty x c f w).mono ?_
      rintro e w' ⟨rfl, h1, h2, h3⟩
      exact ⟨_, rfl, (fun h => by cases h), .inl rfl, h1⟩
    · obtain rfl : x = ⟨b, off, none⟩ := by simpa using hx
      refine (clone10_some b off n c f w hn hb hc).mono ?_
      rintro e w' ⟨rfl, h1, h2, h3⟩
      exact ⟨_, rfl, (fun h => by cases h), .inr ⟨w.heap.size, 0, rfl, h2, fun i hi => by rw [Nat.zero_add]; exact h3 i hi⟩, h1⟩

end Go.Proofs.Qxb6601992aMods.Js
