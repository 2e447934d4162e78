/-
  The contracts of 'listPage.bounds' (function 18) and 'ZZListPageBounds' (function 8): which of 'total' entries a page holds, for itemsPerPage at least 1, pageNum at least 1, 0 ≤ total ≤ maxInt - itemsPerPage.
-/
import Derived.Test.Qxb6601893aModsRows
import Derived.WalkKit
import Derived.WalkSpells
import Derived.ProofKit
import Derived.RegionTactic
import Derived.ChangeAlike
import Derived.Deep.QuietTactic
import Derived.BigQuiet
import Derived.RowKit3
namespace Go.Proofs.Qxb6601893aMods.Bnd
open Go.ChangeShapes Go.WideShapes Go.ChangeAt Go.RowKit
set_option linter.unusedVariables false

theorem grown_drewN {W w' : World} (h : Grown W w') (n : Nat) : Grown W (w'.drewN n) := h

set_option maxHeartbeats 400000 in
theorem bounds_past (i p t : Int) (c : Bool) (w : World) (hi : 1 ≤ i) (hp : 1 ≤ p) (ht : 0 ≤ t) (hi' : i ≤ 9223372036854775807) (hp' : p ≤ 9223372036854775807) (ht' : t ≤ 9223372036854775807) (h : t / i < p - 1) :
    Calls Trym.prog 18 #[.agg #[.int .i64 i, .int .i64 p, .bool c], .int .i64 t] w fun e w' => e = .returned (.tuple #[.int .i64 t, .int .i64 t]) ∧ Grown w w' := by
  go_enter Trym.func18, Trym.ntmps18
  go_wp2
  go_quiet (fail)
  go_wp2
  go_ret2
  exact ⟨rfl, grown_drewN ((Grown.refl _).alloc _ _) _⟩

/-- Where the page that begins at f ends. -/
def To (i t f q : Int) : Prop := (t < f + i ∧ q = t) ∨ (f + i ≤ t ∧ q = f + i)

set_option maxHeartbeats 400000 in
theorem bounds_in (i p t : Int) (c : Bool) (w : World) (hi : 1 ≤ i) (hp : 1 ≤ p) (ht : 0 ≤ t) (hi' : i ≤ 9223372036854775807) (hp' : p ≤ 9223372036854775807) (ht' : t + i ≤ 9223372036854775807) (h : p - 1 ≤ t / i) (hm : (p - 1) * i ≤ t) (hm0 : 0 ≤ (p - 1) * i) :
    Calls Trym.prog 18 #[.agg #[.int .i64 i, .int .i64 p, .bool c], .int .i64 t] w fun e w' => ∃ q, e = .returned (.tuple #[.int .i64 ((p - 1) * i), .int .i64 q]) ∧ To i t ((p - 1) * i) q ∧ Grown w w' := by
  go_enter Trym.func18, Trym.ntmps18
  go_wp2
  go_quiet (fail)
  go_wp2
  go_region
  all_goals (try go_wp2)
  all_goals (go_ret2; exact ⟨_, rfl, by unfold To; omega, grown_drewN ((Grown.refl _).alloc _ _) _⟩)

/-- What the page's bounds are. -/
def Page (i p t f q : Int) : Prop :=
  (t < (p - 1) * i ∧ f = t ∧ q = t) ∨ ((p - 1) * i ≤ t ∧ f = (p - 1) * i ∧ To i t f q)

theorem bounds_any (i p t : Int) (c : Bool) (w : World) (hi : 1 ≤ i) (hp : 1 ≤ p) (ht : 0 ≤ t) (hi' : i ≤ 9223372036854775807) (hp' : p ≤ 9223372036854775807) (ht' : t + i ≤ 9223372036854775807) :
    Calls Trym.prog 18 #[.agg #[.int .i64 i, .int .i64 p, .bool c], .int .i64 t] w fun e w' => ∃ f q, e = .returned (.tuple #[.int .i64 f, .int .i64 q]) ∧ Page i p t f q ∧ Grown w w' := by
  have hd : t / i < p - 1 ↔ t < (p - 1) * i := Int.ediv_lt_iff_lt_mul (by omega)
  by_cases h : t / i < p - 1
  · refine (bounds_past i p t c w hi hp ht hi' hp' (by omega) h).mono ?_
    rintro e w' ⟨rfl, hg⟩
    exact ⟨_, _, rfl, Or.inl ⟨hd.1 h, rfl, rfl⟩, hg⟩
  · have hm : (p - 1) * i ≤ t := by omega
    refine (bounds_in i p t c w hi hp ht hi' hp' ht' (by omega) hm (Int.mul_nonneg (by omega) (by omega))).mono ?_
    rintro e w' ⟨q, rfl, hq, hg⟩
    exact ⟨_, _, rfl, Or.inr ⟨hm, rfl, hq⟩, hg⟩

set_option maxHeartbeats 400000 in
theorem zz_any (i p t : Int) (c : Bool) (w : World) (hi : 1 ≤ i) (hp : 1 ≤ p) (ht : 0 ≤ t) (hi' : i ≤ 9223372036854775807) (hp' : p ≤ 9223372036854775807) (ht' : t + i ≤ 9223372036854775807) :
    Calls Trym.prog 8 #[.int .i64 i, .int .i64 p, .bool c, .int .i64 t] w fun e w' => ∃ f q, e = .returned (.tuple #[.int .i64 f, .int .i64 q]) ∧ Page i p t f q ∧ Grown w w' := by
  go_enter Trym.func8, Trym.ntmps8
  go_wp2_with (go_at_call 18; refine (bounds_any i p t c _ hi hp ht hi' hp' ht').mono ?_; rintro e w' ⟨f, q, rfl, hP, hg⟩)
  go_ret2
  exact ⟨_, _, rfl, hP, hg⟩

/-- The facts that the ordering law asks. -/
theorem Page.facts {i p t f q : Int} (h : Page i p t f q) (hi : 1 ≤ i) (hp : 1 ≤ p) (ht : 0 ≤ t) : 0 ≤ f ∧ f ≤ q ∧ q ≤ t ∧ q - f ≤ i ∧ (q - f = i ∨ q = t) := by
  have h0 : 0 ≤ (p - 1) * i := Int.mul_nonneg (by omega) (by omega)
  rcases h with ⟨h1, rfl, rfl⟩ | ⟨h1, rfl, ⟨h2, rfl⟩ | ⟨h2, rfl⟩⟩ <;> omega
end Go.Proofs.Qxb6601893aMods.Bnd
