/-
  Slices of strings and of slices of strings, as the walks are told of them; the contracts of 'zzBytes' (17), 'ZZNewState' (18), '(*State).Get' (19).
-/
import Derived.Test.Qxb6602143aModsRows
import Derived.WalkKit
import Derived.WalkSpells
import Derived.WalkLawsBesides
import Derived.ProofKit
import Derived.Outline
import Derived.RegionTactic
import Derived.ChangeAlike
import Derived.Deep.QuietTactic
import Derived.BigQuiet
import Derived.RowKit3
import Derived.WalkSmall
import Derived.Deep.OwnRows
import Derived.Lib.SliceRun
import Derived.Maps.Own
import Derived.Maps.OwnOps
import Derived.Maps.OwnSet
import Derived.Maps.Views
import Derived.Deep.DeepCutAuto
import Derived.Deep.CutBlock
namespace Go.Proofs.Qxb6602143aMods.St
open Go.ChangeShapes Go.WideShapes Go.ChangeAt Go.RowKit
set_option linter.unusedVariables false

/-- A slice of n strings: string i is K i. -/
def StrRow (w : World) (a : Option Addr) (n : Nat) (K : Nat → ByteArray) : Prop :=
  n = 0 ∨ ∃ b off, a = some ⟨b, off, none⟩ ∧ b < w.heap.size ∧ ∀ i, i < n → w.cell? ⟨b, off + i, none⟩ = some (.string (K i))
theorem StrRow.later {w w' : World} {a : Option Addr} {n : Nat} {K : Nat → ByteArray} (h : StrRow w a n K) (hb : Below w.heap.size w w') : StrRow w' a n K := by
  rcases h with h | ⟨b, off, ha, hlt, hc⟩
  · exact .inl h
  · exact .inr ⟨b, off, ha, Nat.lt_of_lt_of_le hlt hb.size, fun i hi => (hb.cell (p := ⟨b, off + i, none⟩) hlt).trans (hc i hi)⟩

/-- A slice of n slices of strings: slice i has ln i strings, string t of it is V i t. -/
def ValRow (w : World) (a : Option Addr) (n : Nat) (ln : Nat → Nat) (V : Nat → Nat → ByteArray) : Prop :=
  n = 0 ∨ ∃ b off, a = some ⟨b, off, none⟩ ∧ b < w.heap.size ∧ ∀ i, i < n → ∃ ai ci, w.cell? ⟨b, off + i, none⟩ = some (.slice ai (ln i) ci) ∧ (ai = none → ln i = 0 ∧ ci = 0) ∧ StrRow w ai (ln i) (V i)
theorem ValRow.later {w w' : World} {a : Option Addr} {n : Nat} {ln : Nat → Nat} {V : Nat → Nat → ByteArray} (h : ValRow w a n ln V) (hb : Below w.heap.size w w') : ValRow w' a n ln V := by
  rcases h with h | ⟨b, off, ha, hlt, hc⟩
  · exact .inl h
  · refine .inr ⟨b, off, ha, Nat.lt_of_lt_of_le hlt hb.size, fun i hi => ?_⟩
    obtain ⟨ai, ci, h1, h2, h3⟩ := hc i hi
    exact ⟨ai, ci, (hb.cell (p := ⟨b, off + i, none⟩) hlt).trans h1, h2, h3.later hb⟩

/-! ### zzBytes: whatever it answers, it turns nothing -/
def SaysB (e : Ending) : Prop := ∃ b, e = .returned (.bool b)
theorem SaysB.mk (b : Bool) : SaysB (.returned (.bool b)) := ⟨b, rfl⟩

set_option maxHeartbeats 1000000 in
theorem zz17 (a0 : Option Addr) (n0 c0 : Nat) (a1 : Option Addr) (n1 c1 : Nat) (s : ByteArray) (K : Nat → ByteArray) (ln : Nat → Nat) (V : Nat → Nat → ByteArray) (w : World) (m0 : n0 ≤ 9223372036854775807) (m1 : n1 ≤ 9223372036854775807)
    (hl : ∀ i, i < n1 → ln i ≤ 9223372036854775807) (h0 : StrRow w a0 n0 K) (h1 : ValRow w a1 n1 ln V) :
    Calls Trym.prog 17 #[.slice a0 n0 c0, .slice a1 n1 c1, .string s] w fun e w' => SaysB e ∧ w' = w := by
  by_cases g0 : 1048576 < n0
  · go_enter Trym.func17, Trym.ntmps17
    go_wp2
    go_ret
    exact ⟨SaysB.mk _, rfl⟩
  go_enter Trym.func17, Trym.ntmps17
  go_wp2
  go_loop [7, 8] (fun z i => ∃ (k : Nat) (Z : Int), k ≤ n0 ∧ i = .int .i64 k ∧ z = .int .i64 Z) (fun _ i => n0 - (intOf i).toNat)
  case atStart => exact ⟨0, _, Nat.zero_le _, rfl, rfl⟩
  case round =>
    obtain ⟨k, Z, hk, rfl, rfl⟩ := hrel
    by_cases hlt : k < n0
    · rcases h0 with h | ⟨b, off, ha, hltb, hc⟩
      · omega
      subst ha
      have hck := hc k hlt
      clear hc
      go_wp2
      · go_ret
        exact ⟨SaysB.mk _, rfl⟩
      · go_ret
        exact ⟨SaysB.mk _, rfl⟩
      · go_round
        case rel => exact ⟨k + 1, _, by omega, by go_num, rfl⟩
        case measure => simp [intOf]; omega
    · clear h0
      go_wp2
      · go_ret
        exact ⟨SaysB.mk _, rfl⟩
      · go_ret
        exact ⟨SaysB.mk _, rfl⟩
      · go_loop [7, 9] (fun z i => ∃ (k : Nat) (Z : Int), k ≤ n1 ∧ i = .int .i64 k ∧ z = .int .i64 Z) (fun _ i => n1 - (intOf i).toNat)
        case atStart => exact ⟨0, _, Nat.zero_le _, rfl, rfl⟩
        case round =>
          obtain ⟨q, Z2, hq, rfl, rfl⟩ := hrel
          by_cases hlt1 : q < n1
          · rcases h1 with h | ⟨b, off, ha, hltb, hc⟩
            · omega
            subst ha
            obtain ⟨ai, ci, hcq, _, hrow⟩ := hc q hlt1
            have hlq := hl q hlt1
            clear hc hl
            go_wp2
            · go_ret
              exact ⟨SaysB.mk _, rfl⟩
            · go_ret
              exact ⟨SaysB.mk _, rfl⟩
            · go_loop [7, 10] (fun z i => ∃ (k : Nat) (Z : Int), k ≤ ln q ∧ i = .int .i64 k ∧ z = .int .i64 Z) (fun _ i => ln q - (intOf i).toNat)
              case atStart => exact ⟨0, _, Nat.zero_le _, rfl, rfl⟩
              case round =>
                obtain ⟨r, Z3, hr, rfl, rfl⟩ := hrel
                by_cases hlt2 : r < ln q
                · rcases hrow with h | ⟨b2, off2, ha2, hltb2, hc2⟩
                  · omega
                  subst ha2
                  have hcr := hc2 r hlt2
                  clear hc2
                  go_wp2
                  · go_ret
                    exact ⟨SaysB.mk _, rfl⟩
                  · go_ret
                    exact ⟨SaysB.mk _, rfl⟩
                  · go_round
                    case rel => exact ⟨r + 1, _, by omega, by go_num, rfl⟩
                    case measure => simp [intOf]; omega
                · clear hrow
                  go_wp2
                  go_round
                  case rel => exact ⟨q + 1, _, by omega, by go_num, rfl⟩
                  case measure => simp [intOf]; omega
          · go_wp2
            all_goals
              go_ret
              exact ⟨SaysB.mk _, rfl⟩

/-! ### The state -/
theorem new_any (bm : Nat) (w : World) : Calls Trym.prog 18 #[.map (some bm)] w fun e w' => e = .returned (.pointer (some ⟨w.heap.size, 0, none⟩)) ∧ w' = w.alloc (.cells #[.map (some bm)] 40) := by
  go_enter Trym.func18, Trym.ntmps18
  go_wp2
  go_ret
  exact ⟨rfl, rfl⟩

set_option maxHeartbeats 400000 in
theorem get_none (p bm : Nat) (a : Option Addr) (c : Nat) (s : ByteArray) (w : World) (h : w.cell? ⟨p, 0, none⟩ = some (.map (some bm))) (hrun : (Instr.lookup 36 (.map (some bm)) (.string s) false).run Trym.prog w = .ok (.slice a 0 c) w) :
    Calls Trym.prog 19 #[.pointer (some ⟨p, 0, none⟩), .string s] w fun e w' => e = .returned (.tuple #[.string ByteArray.empty, .bool false]) ∧ w' = w := by
  go_enter Trym.func19, Trym.ntmps19
  go_wp2
  go_ret2
  exact ⟨rfl, rfl⟩

set_option maxHeartbeats 400000 in
theorem get_some (p bm b off n c : Nat) (s x : ByteArray) (w : World) (hn : 1 ≤ n) (hm : n ≤ 9223372036854775807) (h : w.cell? ⟨p, 0, none⟩ = some (.map (some bm))) (hrun : (Instr.lookup 36 (.map (some bm)) (.string s) false).run Trym.prog w = .ok (.slice (some ⟨b, off, none⟩) n c) w)
    (hx : w.cell? ⟨b, off + (n - 1), none⟩ = some (.string x)) :
    Calls Trym.prog 19 #[.pointer (some ⟨p, 0, none⟩), .string s] w fun e w' => e = .returned (.tuple #[.string x, .bool true]) ∧ w' = w := by
  have hz : ((n : Int) == 0) = false := by simp; omega
  go_enter Trym.func19, Trym.ntmps19
  go_wp2
  go_ret2
  exact ⟨rfl, rfl⟩
end Go.Proofs.Qxb6602143aMods.St
