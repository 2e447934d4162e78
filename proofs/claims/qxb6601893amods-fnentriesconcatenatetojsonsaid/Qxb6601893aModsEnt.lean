/-
  The contracts of 'encodedList.entry' (19) and 'ZZEncodedListEntry' (15).
-/
import Derived.Test.Qxb6601893aModsSl
namespace Go.Proofs.Qxb6601893aMods.Sl
open Go.ChangeShapes Go.WideShapes Go.ChangeAt Go.RowKit
set_option linter.unusedVariables false

set_option maxHeartbeats 400000 in
theorem entry_first (a0 : Option Addr) (n0 c0 b off n1 c1 hi : Nat) (w : World) (hb : b < w.heap.size) (hn : 0 < n1) (hh : hi ≤ c0) (hc : w.cell? ⟨b, off, none⟩ = some (.int .i64 hi)) :
    Calls Trym.prog 19 #[.agg #[.slice a0 n0 c0, .slice (some ⟨b, off, none⟩) n1 c1], .int .i64 0] w fun e w' => e = .returned (.slice a0 hi c0) ∧ Below w.heap.size w w' := by
  have hc' : ∀ o, (w.alloc o).cell? ⟨b, off, none⟩ = some (.int .i64 hi) := fun o => by rw [World.cell?_alloc_lt]; exact hc; exact hb
  have hn' : (0 : Int) < (n1 : Int) := by omega
  go_enter Trym.func19, Trym.ntmps19
  go_wp2
  go_quiet (fail)
  go_wp2
  go_ret
  exact ⟨rfl, below_drewN ((Below.refl _ _).alloc (Nat.le_refl _) _) _⟩

set_option maxHeartbeats 400000 in
theorem entry_nth (a0 : Option Addr) (n0 c0 b off n1 c1 k lo hi : Nat) (w : World) (hb : b < w.heap.size) (hn : k + 1 < n1) (hm : n1 ≤ 1048576) (hl : lo ≤ hi) (hh : hi ≤ c0) (hne : lo < c0) (hc : w.cell? ⟨b, off + k, none⟩ = some (.int .i64 lo)) (hd : w.cell? ⟨b, off + (k + 1), none⟩ = some (.int .i64 hi)) :
    Calls Trym.prog 19 #[.agg #[.slice a0 n0 c0, .slice (some ⟨b, off, none⟩) n1 c1], .int .i64 ((k : Int) + 1)] w fun e w' => e = .returned (.slice (a0.map (·.add lo)) (hi - lo) (c0 - lo)) ∧ Below w.heap.size w w' := by
  have hc' : ∀ o, (w.alloc o).cell? ⟨b, off + k, none⟩ = some (.int .i64 lo) := fun o => by rw [World.cell?_alloc_lt]; exact hc; exact hb
  have hd' : ∀ o, (w.alloc o).cell? ⟨b, off + (k + 1), none⟩ = some (.int .i64 hi) := fun o => by rw [World.cell?_alloc_lt]; exact hd; exact hb
  have hn' : (k : Int) + 1 < (n1 : Int) := by omega
  have hne' : ¬ c0 = lo := by omega
  have hne2 : ¬ lo = c0 := by omega
  go_enter Trym.func19, Trym.ntmps19
  go_wp2
  go_quiet (fail)
  go_wp2
  go_ret
  exact ⟨rfl, below_drewN ((Below.refl _ _).alloc (Nat.le_refl _) _) _⟩

set_option maxHeartbeats 400000 in
theorem entry_last (a0 : Option Addr) (n0 b off n1 c1 k lo : Nat) (w : World) (hb : b < w.heap.size) (hn : k + 1 < n1) (hm : n1 ≤ 1048576) (hc : w.cell? ⟨b, off + k, none⟩ = some (.int .i64 lo)) (hd : w.cell? ⟨b, off + (k + 1), none⟩ = some (.int .i64 lo)) :
    Calls Trym.prog 19 #[.agg #[.slice a0 n0 lo, .slice (some ⟨b, off, none⟩) n1 c1], .int .i64 ((k : Int) + 1)] w fun e w' => e = .returned (.slice a0 0 0) ∧ Below w.heap.size w w' := by
  have hc' : ∀ o, (w.alloc o).cell? ⟨b, off + k, none⟩ = some (.int .i64 lo) := fun o => by rw [World.cell?_alloc_lt]; exact hc; exact hb
  have hd' : ∀ o, (w.alloc o).cell? ⟨b, off + (k + 1), none⟩ = some (.int .i64 lo) := fun o => by rw [World.cell?_alloc_lt]; exact hd; exact hb
  have hn' : (k : Int) + 1 < (n1 : Int) := by omega
  go_enter Trym.func19, Trym.ntmps19
  go_wp2
  go_quiet (fail)
  go_wp2
  go_ret
  exact ⟨rfl, below_drewN ((Below.refl _ _).alloc (Nat.le_refl _) _) _⟩

theorem Valid.mono {n0 n1 : Nat} {E : Nat → Int} (h : Valid n0 n1 E) : ∀ d i, i + d ≤ n1 → pre E i ≤ pre E (i + d)
  | 0, i, _ => Int.le_refl _
  | d + 1, i, hi => Int.le_trans (Valid.mono h d i (by omega)) (h.1 (i + d) (by omega))
theorem Valid.le {n0 n1 : Nat} {E : Nat → Int} (h : Valid n0 n1 E) {i j : Nat} (hij : i ≤ j) (hj : j ≤ n1) : pre E i ≤ pre E j := by
  have := h.mono (j - i) i (by omega)
  rwa [Nat.add_sub_cancel' hij] at this
theorem Valid.nonneg {n0 n1 : Nat} {E : Nat → Int} (h : Valid n0 n1 E) {i : Nat} (hi : i ≤ n1) : 0 ≤ pre E i := h.le (Nat.zero_le i) hi
theorem Valid.most {n0 n1 : Nat} {E : Nat → Int} (h : Valid n0 n1 E) {i : Nat} (hi : i ≤ n1) : pre E i ≤ (n0 : Int) := Int.le_trans (h.le hi (Nat.le_refl _)) h.2

/-- The ends as natural numbers. -/
def cut (E : Nat → Int) (i : Nat) : Nat := (pre E i).toNat
theorem Valid.cast {n0 n1 : Nat} {E : Nat → Int} (h : Valid n0 n1 E) {i : Nat} (hi : i ≤ n1) : ((cut E i : Nat) : Int) = pre E i := Int.toNat_of_nonneg (h.nonneg hi)
theorem Valid.cut_le {n0 n1 : Nat} {E : Nat → Int} (h : Valid n0 n1 E) {i j : Nat} (hij : i ≤ j) (hj : j ≤ n1) : cut E i ≤ cut E j := by
  have := h.le hij hj; have := h.cast hj; have := h.cast (Nat.le_trans hij hj); omega
theorem Valid.cut_most {n0 n1 : Nat} {E : Nat → Int} (h : Valid n0 n1 E) {i : Nat} (hi : i ≤ n1) : cut E i ≤ n0 := by
  have := h.most hi; have := h.cast hi; omega

/-- A slice of a slice. -/
theorem Row.sub {k : IntKind} {w : World} {a : Option Addr} {n : Nat} {f : Nat → Int} (h : Row k w a n f) {lo hi : Nat} (hl : lo ≤ hi) (hh : hi ≤ n) : Row k w (a.map (·.add lo)) (hi - lo) (fun j => f (lo + j)) := by
  rcases h with h | ⟨b, off, ha, hlt, hc⟩
  · exact .inl (by omega)
  · subst ha
    refine .inr ⟨b, off + lo, by simp [Addr.add], hlt, fun i hi => ?_⟩
    rw [Nat.add_assoc]
    exact hc (lo + i) (by omega)
theorem Row.front {k : IntKind} {w : World} {a : Option Addr} {n : Nat} {f : Nat → Int} (h : Row k w a n f) {hi : Nat} (hh : hi ≤ n) : Row k w a hi f := by
  rcases h with h | ⟨b, off, ha, hlt, hc⟩
  · exact .inl (by omega)
  · exact .inr ⟨b, off, ha, hlt, fun i hi => hc i (by omega)⟩

/-- What comes back of entry i: the bytes between two ends. -/
def Entry (w w' : World) (f E : Nat → Int) (i : Nat) (e : Ending) : Prop :=
  ∃ a' c', e = .returned (.slice a' (cut E (i + 1) - cut E i) c') ∧ (a' = none → cut E (i + 1) - cut E i = 0 ∧ c' = 0) ∧ cut E (i + 1) - cut E i ≤ c' ∧ Row .u8 w' a' (cut E (i + 1) - cut E i) (fun j => f (cut E i + j)) ∧ Below w.heap.size w w'

theorem entry_any (a0 : Option Addr) (n0 c0 : Nat) (a1 : Option Addr) (n1 c1 i : Nat) (f E : Nat → Int) (w : World) (hm : n1 ≤ 1048576) (hnc : n0 ≤ c0) (h00 : a0 = none → n0 = 0 ∧ c0 = 0) (h0 : Row .u8 w a0 n0 f) (h1 : Row .i64 w a1 n1 E) (hv : Valid n0 n1 E) (hi : i < n1) :
    Calls Trym.prog 19 #[.agg #[.slice a0 n0 c0, .slice a1 n1 c1], .int .i64 i] w fun e w' => Entry w w' f E i e := by
  rcases h1 with h | ⟨b, off, rfl, hb, hc⟩
  · omega
  have hhi := hv.cut_most (show i + 1 ≤ n1 by omega)
  have hci := hv.cast (show i + 1 ≤ n1 by omega)
  match i, hi, hhi, hci with
  | 0, hi, hhi, hci =>
    have hcell := hc 0 hi
    rw [Nat.zero_add] at hhi hci
    rw [Nat.add_zero, show E 0 = ((cut E 1 : Nat) : Int) from hci.symm] at hcell
    refine (entry_first a0 n0 c0 b off n1 c1 (cut E 1) w hb hi (by omega) hcell).mono ?_
    rintro e w' ⟨rfl, hbw⟩
    refine ⟨a0, c0, rfl, fun h => ⟨?_, (h00 h).2⟩, Nat.le_trans hhi hnc, ?_, hbw⟩
    · have := (h00 h).1
      show cut E 1 - 0 = 0
      omega
    · have := (h0.front hhi).later hbw
      show Row .u8 w' a0 (cut E 1) (fun j => f (0 + j))
      simpa using this
  | k + 1, hi, hhi, hci =>
    have hlo := hv.cast (show k + 1 ≤ n1 by omega)
    have hle := hv.cut_le (show k + 1 ≤ k + 1 + 1 by omega) (by omega)
    have hck := hc k (by omega)
    have hdk := hc (k + 1) hi
    rw [show E k = ((cut E (k + 1) : Nat) : Int) from hlo.symm] at hck
    rw [show E (k + 1) = ((cut E (k + 1 + 1) : Nat) : Int) from hci.symm] at hdk
    rw [Int.natCast_add, Int.natCast_one]
    by_cases hlt : cut E (k + 1) < c0
    · refine (entry_nth a0 n0 c0 b off n1 c1 k (cut E (k + 1)) (cut E (k + 1 + 1)) w hb hi hm hle (by omega) hlt hck hdk).mono ?_
      rintro e w' ⟨rfl, hbw⟩
      refine ⟨_, _, rfl, fun h => ?_, by omega, (h0.sub hle hhi).later hbw, hbw⟩
      have := h00 (by simpa using h)
      omega
    · obtain rfl : c0 = cut E (k + 1) := by omega
      have e2 : cut E (k + 1 + 1) = cut E (k + 1) := by omega
      rw [e2] at hdk
      refine (entry_last a0 n0 b off n1 c1 k (cut E (k + 1)) w hb hi hm hck hdk).mono ?_
      rintro e w' ⟨rfl, hbw⟩
      refine ⟨a0, 0, ?_, fun h => ⟨?_, rfl⟩, by omega, .inl (by omega), hbw⟩
      · rw [e2, Nat.sub_self]
      · omega

set_option maxHeartbeats 400000 in
theorem zzentry_any (a0 : Option Addr) (n0 c0 : Nat) (a1 : Option Addr) (n1 c1 i : Nat) (f E : Nat → Int) (w : World) (hm : n1 ≤ 1048576) (hnc : n0 ≤ c0) (h00 : a0 = none → n0 = 0 ∧ c0 = 0) (h0 : Row .u8 w a0 n0 f) (h1 : Row .i64 w a1 n1 E) (hv : Valid n0 n1 E) (hi : i < n1) :
    Calls Trym.prog 15 #[.slice a0 n0 c0, .slice a1 n1 c1, .int .i64 i] w fun e w' => Entry w w' f E i e := by
  have hh := entry_any a0 n0 c0 a1 n1 c1 i f E w hm hnc h00 h0 h1 hv hi
  have H : Hid (Calls Trym.prog 19 #[.agg #[.slice a0 n0 c0, .slice a1 n1 c1], .int .i64 i] w fun e w' => Entry w w' f E i e) := hh
  clear hh h0 h1 hv h00
  go_enter Trym.func15, Trym.ntmps15
  go_wp2_with fail
  refine Calls.mono H.out ?_
  rintro e w' ⟨a', c', rfl, h2, h3, h4, h5⟩
  go_wp2
  go_ret
  exact ⟨a', c', rfl, h2, h3, h4, h5⟩
end Go.Proofs.Qxb6601893aMods.Sl
