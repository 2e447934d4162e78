/-
  The plain laws: the last place of a key; strings that rise; and what the map that the law fills holds at the key.
-/
import Derived.Test.Qxb6602143aModsCp
namespace Go.Proofs.Qxb6602143aMods.St
open Go.ChangeShapes Go.WideShapes Go.ChangeAt Go.RowKit Go.Maps
set_option linter.unusedVariables false

/-- The last place below i at which K holds s. -/
def last (K : Nat → ByteArray) (s : ByteArray) : Nat → Option Nat
  | 0 => none
  | i + 1 => if ((K i).toList == s.toList) = true then some i else last K s i
def jint : Option Nat → Int
  | none => -1
  | some j => j

theorem last_yes {K : Nat → ByteArray} {s : ByteArray} {i : Nat} (h : ((K i).toList == s.toList) = true) : last K s (i + 1) = some i := if_pos h
theorem last_no {K : Nat → ByteArray} {s : ByteArray} {i : Nat} (h : ((K i).toList == s.toList) = false) : last K s (i + 1) = last K s i := if_neg (by rw [h]; decide)
theorem last_lt {K : Nat → ByteArray} {s : ByteArray} : ∀ {n j : Nat}, last K s n = some j → j < n
  | 0, j, h => by cases h
  | n + 1, j, h => by
    unfold last at h
    split at h
    · cases h; omega
    · have := last_lt h; omega
theorem last_some {K : Nat → ByteArray} {s : ByteArray} {n : Nat} {J : Int} (h : J = jint (last K s n)) (h0 : 0 ≤ J) : ∃ j : Nat, last K s n = some j ∧ (j : Int) = J := by
  match hl : last K s n, h with
  | none, h => rw [h] at h0; exact absurd h0 (by decide)
  | some j, h => exact ⟨j, rfl, h.symm⟩
/-- The strings of V rise strictly. -/
def Rises (n : Nat) (V : Nat → ByteArray) : Prop := ∀ u, u + 1 < n → Op.bytesLess (V u).toList (V (u + 1)).toList = true

theorem rises_next {u : Nat} {V : Nat → ByteArray} (h : Rises (u + 1) V) (hb : Op.bytesLess (V u).toList (V (u + 1)).toList = true) : Rises (u + 1 + 1) V := by
  intro t ht
  rcases Nat.lt_or_eq_of_le (Nat.le_of_lt_succ (show t < u + 1 by omega)) with h' | rfl
  · exact h t (by omega)
  · exact hb
theorem rises_le {n m : Nat} {V : Nat → ByteArray} (h : Rises n V) (hm : m ≤ n) : Rises m V := fun t ht => h t (by omega)

/-! ### The order of byte strings -/
theorem less_trans : ∀ (x y z : List UInt8), Op.bytesLess x y = true → Op.bytesLess y z = true → Op.bytesLess x z = true
  | _, [], _, h, _ => by simp [Op.bytesLess] at h
  | _, _ :: _, [], _, h => by simp [Op.bytesLess] at h
  | [], _ :: _, _ :: _, _, _ => rfl
  | a :: x, b :: y, c :: z, h1, h2 => by
    simp only [Op.bytesLess, Bool.or_eq_true, Bool.and_eq_true, decide_eq_true_eq, beq_iff_eq] at h1 h2 ⊢
    rcases h1 with h1 | ⟨rfl, h1⟩
    · rcases h2 with h2 | ⟨rfl, h2⟩
      · exact .inl (UInt8.lt_trans h1 h2)
      · exact .inl h1
    · rcases h2 with h2 | ⟨rfl, h2⟩
      · exact .inl h2
      · exact .inr ⟨rfl, less_trans x y z h1 h2⟩
theorem less_irrefl : ∀ x : List UInt8, Op.bytesLess x x = false
  | [] => rfl
  | a :: x => by simp [Op.bytesLess, less_irrefl x, UInt8.lt_irrefl]
theorem less_asymm (x y : List UInt8) (h : Op.bytesLess x y = true) : Op.bytesLess y x = false := by
  by_cases h' : Op.bytesLess y x = true
  · have := less_trans x y x h h'
    rw [less_irrefl] at this
    cases this
  · simpa using h'
theorem rises_far {n : Nat} {V : Nat → ByteArray} (h : Rises n V) : ∀ d t, t + d + 1 < n → Op.bytesLess (V t).toList (V (t + d + 1)).toList = true
  | 0, t, ht => h t ht
  | d + 1, t, ht => less_trans _ _ _ (rises_far h d t (by omega)) (h (t + d + 1) (by omega))
/-- Of strings that rise the last is exceeded by none. -/
theorem rises_last {n : Nat} {V : Nat → ByteArray} (h : Rises n V) (t : Nat) (ht : t < n) : Op.bytesLess (V (n - 1)).toList (V t).toList = false := by
  by_cases he : t = n - 1
  · rw [he]; exact less_irrefl _
  · have := rises_far h (n - 1 - t - 1) t (by omega)
    rw [show t + (n - 1 - t - 1) + 1 = n - 1 by omega] at this
    exact less_asymm _ _ this

/-! ### The map -/
/-- An element of the map is told by the slice value itself. -/
def Rv (v : Value) : Option (DataW Value × List MemPlace) := some (.held v, [])
theorem law9 : Keyed Trym.prog 9 := string_keyed Trym.underlying9
theorem zero33 (w : World) : (zeroValue 33).run Trym.prog w = .ok (.slice none 0 0) w := by kernel_rfl
def litOf (s : ByteArray) : Lit := .string s.data.toList
theorem key_of {s : ByteArray} (h : s.size ≤ maxLen) : keyOf Trym.prog 9 (.string s) = some (litOf s) := WideMaps.keyOf_string_mk Trym.underlying9 h
theorem lit_ne {a b : ByteArray} (h : (a.toList == b.toList) = false) : litOf b ≠ litOf a := by
  intro e
  have : b.data.toList = a.data.toList := by simpa [litOf] using e
  rw [ByteArray.toList_eq, ByteArray.toList_eq, this] at h
  simp at h
theorem lit_eq {a b : ByteArray} (h : (a.toList == b.toList) = true) : litOf b = litOf a := by
  rw [ByteArray.toList_eq, ByteArray.toList_eq] at h
  have : a.data.toList = b.data.toList := by simpa using h
  simp [litOf, this]

/-- The slice at the key. -/
def Held (w : World) (ln : Nat → Nat) (V : Nat → Nat → ByteArray) : Option Nat → Value → Prop
  | none, v => v = .slice none 0 0
  | some j, v => ∃ a c, v = .slice a (ln j) c ∧ StrRow w a (ln j) (V j)
/-- The map when its first k entries have been stored. -/
def MapRel (w wr : World) (K : Nat → ByteArray) (s : ByteArray) (ln : Nat → Nat) (V : Nat → Nat → ByteArray) (k : Nat) : Prop :=
  Below w.heap.size w wr ∧ ∃ D, wr.ownsMap Trym.prog 9 Rv w.heap.size k D ∧ ∃ v, D.atKey (litOf s) (.held (.slice none 0 0)) = .held v ∧ Held w ln V (last K s k) v

theorem MapRel.start (w : World) (K : Nat → ByteArray) (s : ByteArray) (ln : Nat → Nat) (V : Nat → Nat → ByteArray) : MapRel w (w.alloc (.map #[] 0)) K s ln V 0 :=
  ⟨(Below.refl _ _).alloc (Nat.le_refl _) _, .map [], World.ownsMap_made _ _ _ _, _, rfl, rfl⟩

/-- A store. -/
theorem MapRel.next {w wr : World} {K : Nat → ByteArray} {s : ByteArray} {ln : Nat → Nat} {V : Nat → Nat → ByteArray} {k : Nat} (h : MapRel w wr K s ln V k) (hk : k ≤ 65536) (hs : (K k).size ≤ maxLen) (a : Option Addr) (c : Nat) (hr : StrRow w a (ln k) (V k)) (q : Nat) :
    ∃ w1, (Instr.mapUpdate 36 (.map (some w.heap.size)) (.string (K k)) (.slice a (ln k) c)).run Trym.prog (wr.drewN q) = .ok () w1 ∧ MapRel w w1 K s ln V (k + 1) := by
  obtain ⟨hb, D, hown, v, hat, hH⟩ := h
  have hown' : (wr.drewN q).ownsMap Trym.prog 9 Rv w.heap.size k D := hown
  have hb' : Below w.heap.size w (wr.drewN q) := below_drewN hb q
  obtain ⟨w1, hrun, hown1, hg1⟩ := hown'.update law9 Trym.underlying36 (show k < maxLen by unfold maxLen; omega) (key_of hs) (val := .slice a (ln k) c) rfl
  refine ⟨w1, hrun, hb'.grown hg1 hb'.size (fun j hj => by cases hj; exact Nat.le_refl _), _, hown1, ?_⟩
  by_cases he : ((K k).toList == s.toList) = true
  · refine ⟨.slice a (ln k) c, ?_, ?_⟩
    · rw [lit_eq he]
      exact atKey_put_same hown.isMap (by unfold litOf; trivial) _ _
    · rw [last_yes he]
      exact ⟨a, c, rfl, hr⟩
  · have he' : ((K k).toList == s.toList) = false := by simpa using he
    refine ⟨v, ?_, ?_⟩
    · rw [atKey_put_other (lit_ne he')]
      exact hat
    · rw [last_no he']
      exact hH

/-- A look-up, in whatever later world. -/
theorem MapRel.look {w wr : World} {K : Nat → ByteArray} {s : ByteArray} {ln : Nat → Nat} {V : Nat → Nat → ByteArray} {k : Nat} (h : MapRel w wr K s ln V k) (hs : s.size ≤ maxLen) (o : Obj) :
    ∃ v, (Instr.lookup 36 (.map (some w.heap.size)) (.string s) false).run Trym.prog (wr.alloc o) = .ok v (wr.alloc o) ∧ Held w ln V (last K s k) v := by
  obtain ⟨hb, D, hown, v, hat, hH⟩ := h
  obtain ⟨v', ps, hrun, hv⟩ := (hown.alloc o).lookup law9 Trym.underlying36 (zero33 _) (zd := .held (.slice none 0 0)) (zp := []) rfl (key_of hs)
  refine ⟨v', hrun, ?_⟩
  rw [hat] at hv
  have : v' = v := by
    have h2 : v' = v ∧ ps = [] := by simpa [Rv] using hv
    exact h2.1
  rw [this]
  exact hH
theorem run_makeMap_hint (n : Int) (w : World) : (Instr.makeMap 36 (some (.int .i64 n))).run Trym.prog w = .ok (.map (some w.heap.size)) (w.alloc (.map #[] 0)) := by
  simp [Instr.makeMap, run_underlying Trym.underlying36, asInt]
  rfl
end Go.Proofs.Qxb6602143aMods.St
