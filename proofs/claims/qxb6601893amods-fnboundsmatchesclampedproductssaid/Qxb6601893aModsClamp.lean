/-
  The contracts of 'minInt' (function 9) and 'satMulNonneg' (function 10), and the plain law that ties them to the page's bounds.
-/
import Derived.Test.Qxb6601893aModsBounds
namespace Go.Proofs.Qxb6601893aMods.Bnd
open Go.ChangeShapes Go.WideShapes Go.ChangeAt Go.RowKit
set_option linter.unusedVariables false

def Least (a b m : Int) : Prop := (a < b ∧ m = a) ∨ (b ≤ a ∧ m = b)
def Sat (a b m : Int) : Prop := (9223372036854775807 < a * b ∧ m = 9223372036854775807) ∨ (a * b ≤ 9223372036854775807 ∧ m = a * b)

theorem min_any (a b : Int) (w : World) :
    Calls Trym.prog 9 #[.int .i64 a, .int .i64 b] w fun e w' => ∃ m, e = .returned (.int .i64 m) ∧ Least a b m ∧ w' = w := by
  by_cases h : a < b
  · go_enter Trym.func9, Trym.ntmps9
    go_wp2
    go_ret
    exact ⟨_, rfl, Or.inl ⟨h, rfl⟩, rfl⟩
  · go_enter Trym.func9, Trym.ntmps9
    go_wp2
    go_ret
    exact ⟨_, rfl, Or.inr ⟨by omega, rfl⟩, rfl⟩

theorem sat_past (a b : Int) (w : World) (ha : 0 ≤ a) (hb : 1 ≤ b) (h : 9223372036854775807 / b < a) :
    Calls Trym.prog 10 #[.int .i64 a, .int .i64 b] w fun e w' => e = .returned (.int .i64 9223372036854775807) ∧ w' = w := by
  go_enter Trym.func10, Trym.ntmps10
  go_wp2
  go_ret
  exact ⟨rfl, rfl⟩

theorem sat_in (a b : Int) (w : World) (ha : 0 ≤ a) (hb : 1 ≤ b) (h : a ≤ 9223372036854775807 / b) (hm : a * b ≤ 9223372036854775807) (hm0 : 0 ≤ a * b) :
    Calls Trym.prog 10 #[.int .i64 a, .int .i64 b] w fun e w' => e = .returned (.int .i64 (a * b)) ∧ w' = w := by
  go_enter Trym.func10, Trym.ntmps10
  go_wp2
  go_ret
  exact ⟨rfl, rfl⟩

theorem sat_any (a b : Int) (w : World) (ha : 0 ≤ a) (hb : 1 ≤ b) :
    Calls Trym.prog 10 #[.int .i64 a, .int .i64 b] w fun e w' => ∃ m, e = .returned (.int .i64 m) ∧ Sat a b m ∧ w' = w := by
  have hd : 9223372036854775807 / b < a ↔ 9223372036854775807 < a * b := Int.ediv_lt_iff_lt_mul (by omega)
  by_cases h : 9223372036854775807 / b < a
  · refine (sat_past a b w ha hb h).mono ?_
    rintro e w' ⟨rfl, rfl⟩
    exact ⟨_, rfl, Or.inl ⟨hd.1 h, rfl⟩, rfl⟩
  · refine (sat_in a b w ha hb (by omega) (by omega) (Int.mul_nonneg ha (by omega))).mono ?_
    rintro e w' ⟨rfl, rfl⟩
    exact ⟨_, rfl, Or.inr ⟨by omega, rfl⟩, rfl⟩

theorem page_from {i p t f q s m : Int} (h : Page i p t f q) (ht : t + i ≤ 9223372036854775807) (hi : 1 ≤ i) (hs : Sat (p - 1) i s) (hm : Least t s m) : m = f := by
  rcases h with ⟨h1, rfl, rfl⟩ | ⟨h1, rfl, h2⟩ <;> rcases hs with ⟨h3, rfl⟩ | ⟨h3, rfl⟩ <;> rcases hm with ⟨h5, rfl⟩ | ⟨h5, rfl⟩ <;> omega

theorem page_to {i p t f q s m : Int} (h : Page i p t f q) (ht : t + i ≤ 9223372036854775807) (hi : 1 ≤ i) (hs : Sat p i s) (hm : Least t s m) : m = q := by
  have e : p * i = (p - 1) * i + i := by rw [Int.sub_mul]; omega
  unfold Sat at hs
  rw [e] at hs
  rcases h with ⟨h1, rfl, rfl⟩ | ⟨h1, rfl, ⟨h2, rfl⟩ | ⟨h2, rfl⟩⟩ <;> rcases hs with ⟨h3, rfl⟩ | ⟨h3, rfl⟩ <;> rcases hm with ⟨h5, rfl⟩ | ⟨h5, rfl⟩ <;> omega
end Go.Proofs.Qxb6601893aMods.Bnd
