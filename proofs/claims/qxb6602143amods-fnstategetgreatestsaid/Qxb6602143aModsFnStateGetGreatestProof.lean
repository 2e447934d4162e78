/-
  The proof of 'Rows.FnStateGetGreatestSaid': the kit's shell for this function (its frame as it was written), the walk filled in.
-/
import Derived.Test.Qxb6602143aModsOut
import Derived.WalkKit
import Derived.ProofKit
import Derived.OpenShut
import Derived.ShutString
import Derived.ChangeOld
import Derived.Below
namespace Go.Proofs.Qxb6602143aMods.fnStateGetGreatest
open Go.ChangeShapes Go.WideShapes Go.ChangeAt Go.RowKit
open Go.ChangeMaps (open_string shut_string)
set_option linter.unusedVariables false

theorem own : ownKnob Trym.prog.godebug = none := by kernel_rfl
theorem laidOut : laidOutB Trym.prog = true := by kernel_rfl

/-! ### STEP 1: THE WALK -/
theorem walk (a0 : Option Addr) (n0 c0 : Nat) (a1 : Option Addr) (n1 c1 : Nat) (s : ByteArray) (K : Nat → ByteArray) (ln : Nat → Nat) (V : Nat → Nat → ByteArray) (w : World)
    (h0 : St.StrRow w a0 n0 K) (e0 : a0 = none → n0 = 0 ∧ c0 = 0) (m0 : n0 ≤ 9223372036854775807) (hk : ∀ i, i < n0 → (K i).size ≤ maxLen)
    (h1 : St.ValRow w a1 n1 ln V) (e1 : a1 = none → n1 = 0 ∧ c1 = 0) (m1 : n1 ≤ 9223372036854775807) (hl : ∀ i, i < n1 → ln i ≤ 9223372036854775807) (hs : s.size ≤ maxLen) :
    Calls Trym.prog 7 #[.slice a0 n0 c0, .slice a1 n1 c1, .string s] w fun e w' => e = .returned (.bool true) ∧ Below w.heap.size w w' := by
  unfold maxLen at hs
  by_cases g1 : s.size ≤ 1048576
  · by_cases g2 : n0 ≤ 65536
    · by_cases g3 : n1 ≤ 65536
      · by_cases g4 : s.size + 16 * n0 + 24 * n1 ≤ 1048576
        · exact St.great_law a0 n0 c0 a1 n1 c1 s K ln V w g1 g2 g3 g4 hl hk e0 e1 h0 h1
        · exact St.great_out a0 n0 c0 a1 n1 c1 s K ln V w m0 m1 hs hl h0 h1 (by omega)
      · exact St.great_out a0 n0 c0 a1 n1 c1 s K ln V w m0 m1 hs hl h0 h1 (by omega)
    · exact St.great_out a0 n0 c0 a1 n1 c1 s K ln V w m0 m1 hs hl h0 h1 (by omega)
  · exact St.great_out a0 n0 c0 a1 n1 c1 s K ln V w m0 m1 hs hl h0 h1 (by omega)

/-! ### THE ROW's STEP -/
set_option maxRecDepth 100000 in
theorem lifted (os : Os) (started : os.Started) (H : Type) (enc : TypeId × Value → H) :
    ReturnsInHanded {} Trym.checked os 7 .any (Rows.fnStateGetGreatestSpec.pre6 enc Trym.prog Trym.f7 Rows.fnStateGetGreatestRow.domain false) (Rows.fnStateGetGreatestSpec.post enc Trym.prog Trym.f7 false true false false) := by
  refine returnsInHanded_of_change (C := Trym.checked) own started (by kernel_rfl) Trym.func7
    (ChangeSpec.witness6 (enc := enc) (C := Trym.checked) false ⟨#[], #[.slice none 0 0, .slice none 0 0, .string ByteArray.empty], []⟩ 8 (by kernel_rfl) (by kernel_rfl) (by kernel_rfl) (by kernel_rfl)) ?_
  intro W base args ds gs before hval0 hW hcnd _
  have hval : ∀ (j : Nat) t v, Trym.f7.params[j]? = some t → args[j]? = some v → Value.okWide Trym.prog W .any base t v := hval0
  have hW' := hW
  obtain ⟨p, q, hA0, hV, rfl, hfz, hnd⟩ := hW
  have hA : DataW.TrodAll enc Trym.prog W 0 (fun _ => true) true Trym.f7.params.toList args.toList ds p := hA0
  rw [Trym.params7] at hA hval
  obtain ⟨v0, vs0, d0, ds0, p0, q0, hargs, rfl, rfl, h0, r0⟩ := trodAll_cons hA
  obtain ⟨v1, vs1, d1, ds1, p1, q1, rfl, rfl, rfl, h1, r1⟩ := trodAll_cons r0
  obtain ⟨v2, vs2, d2, ds2, p2, q2, rfl, rfl, rfl, h2, r2⟩ := trodAll_cons r1
  obtain ⟨rfl, rfl, rfl⟩ := trodAll_nil r2
  obtain rfl : args = #[v0, v1, v2] := by cases args; simp_all
  obtain ⟨rfl, rfl⟩ := trodVars_none hV
  obtain ⟨a0, len0, cap0, rfl⟩ := okWide_slice Trym.underlying33 (hval 0 33 v0 rfl rfl)
  have k0 := h0
  have lt0 : ∀ x ∈ p0, x.block < W.heap.size := by obtain ⟨m, hm⟩ := k0; exact DataW.trod_lt m _ _ _ hm
  obtain ⟨K, x0, y0, z0, u0⟩ : ∃ K, St.StrRow W a0 len0 K ∧ (a0 = none → len0 = 0 ∧ cap0 = 0) ∧ len0 ≤ 9223372036854775807 ∧ ∀ i, i < len0 → (K i).size ≤ maxLen := by
    obtain ⟨fuel, hf⟩ := h0
    exact St.open_keys rfl hf
  obtain ⟨a1, len1, cap1, rfl⟩ := okWide_slice Trym.underlying34 (hval 1 34 v1 rfl rfl)
  have k1 := h1
  have lt1 : ∀ x ∈ p1, x.block < W.heap.size := by obtain ⟨m, hm⟩ := k1; exact DataW.trod_lt m _ _ _ hm
  obtain ⟨ln, V, x1, y1, z1, u1⟩ : ∃ ln V, St.ValRow W a1 len1 ln V ∧ (a1 = none → len1 = 0 ∧ cap1 = 0) ∧ len1 ≤ 9223372036854775807 ∧ ∀ i, i < len1 → ln i ≤ 9223372036854775807 := by
    obtain ⟨fuel, hf⟩ := h1
    exact St.open_vals rfl hf
  obtain ⟨a2, rfl, rfl, rfl, w2⟩ := open_string Trym.underlying9 (hval 2 9 v2 rfl rfl) h2
  clear hA0 hval0
  refine (walk a0 len0 cap0 a1 len1 cap1 a2 K ln V W x0 y0 z0 u0 x1 y1 z1 u1 w2).mono fun e W' ⟨he, bel⟩ => ?_
  subst he
  exact ⟨_, rfl, _, _, _, [], _, [], hW', trodAll_mk1 (shut_bool Trym.underlying4 _), (trodAll_cons_mk (Below.trod laidOut (by kernel_rfl) (of_decide_eq_true (by kernel_rfl)) k0 bel lt0) (trodAll_cons_mk (Below.trod laidOut (by kernel_rfl) (of_decide_eq_true (by kernel_rfl)) k1 bel lt1) (trodAll_cons_mk (shut_string Trym.underlying9 w2) trodAll_mk0))), rfl, bel.frame _, fun h => by cases h⟩

theorem over : Rows.fnStateGetGreatestRow.holds Trym.pinned (OpenSpec.ofChange Rows.fnStateGetGreatestSpec) :=
  OpenClaim.holds_of_wide 7 Trym.f7 rfl rfl rfl rfl rfl rfl rfl ⟨rfl, rfl, rfl, rfl, rfl⟩ rfl rfl rfl rfl rfl (by kernel_rfl) Trym.func7 (by kernel_rfl)
    (of_decide_eq_true (by kernel_rfl)) (by unfold Func.isWrapper; first | (rw [if_pos (by decide +kernel)]; kernel_rfl) | (rw [if_neg (by decide +kernel)]; exact ⟨rfl, rfl⟩))
    (fun os started H enc _ => lifted os started H enc)

/-- THE STATEMENT -/
theorem proved : Rows.FnStateGetGreatestSaid := over
#print axioms proved
end Go.Proofs.Qxb6602143aMods.fnStateGetGreatest
