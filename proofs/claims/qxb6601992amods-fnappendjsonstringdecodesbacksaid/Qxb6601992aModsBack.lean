/-
  The walk of 'FnAppendJSONStringDecodesBack' (3).
-/
import Derived.Test.Qxb6601992aModsDec
namespace Go.Proofs.Qxb6601992aMods.Js
open Go.ChangeShapes Go.WideShapes Go.ChangeAt Go.RowKit
set_option linter.unusedVariables false

/-- A buffer that holds something, read. -/
theorem Buf.cellsAt {W w : World} {v : Value} {L : List Int} (h : Buf W w v L) (h0 : 0 < L.length) : ∃ g cap, v = .slice (some ⟨g, 0, none⟩) L.length cap ∧ L.length ≤ cap ∧ g < w.heap.size ∧ ∀ i, i < L.length → w.cell? ⟨g, i, none⟩ = some (.int .u8 (fn L i)) := by
  rcases h.2.2 with ⟨_, h1⟩ | ⟨g, cap, cur, rfl, hg, hh, hcap, r⟩
  · omega
  · refine ⟨g, cap, rfl, hcap, ?_, fun i hi => ?_⟩
    · rw [Array.getElem?_eq_some_iff] at hh
      exact hh.1
    · rw [h.2.cellAt i (by omega)]
      simp [fn, hi]
theorem fn_left (F L : List Int) (i : Nat) (h : i < F.length) : fn (F ++ L) i = fn F i := by
  simp [fn, List.getElem?_append_left h]
theorem fn_right (F L : List Int) (i : Nat) : fn (F ++ L) (F.length + i) = fn L i := by
  simp [fn, List.getElem?_append_right]

set_option maxHeartbeats 1000000 in
theorem back_law (a0 : Option Addr) (n0 c0 : Nat) (F : List Int) (s : ByteArray) (w : World) (hF : F.length = n0) (g : n0 + s.size ≤ 1048576) (h00 : a0 = none → n0 = 0 ∧ c0 = 0) (hr0 : Row .u8 w a0 n0 (fn F)) :
    Calls Trym.prog 3 #[.slice a0 n0 c0, .string s] w fun e w' => e = .returned (.bool true) ∧ Below w.heap.size w w' := by
  have HF : Hid (F.length = n0) := hF
  clear hF
  go_enter Trym.func3, Trym.ntmps3
  go_wp2_with fail
  refine (zz9 a0 n0 c0 s _).mono ?_
  rintro e w ⟨b, rfl, rfl⟩
  cases b
  · go_wp2
    go_ret
    exact ⟨rfl, Below.refl _ _⟩
  go_wp2_with fail
  refine (clone10_any a0 n0 c0 (fn F) _ (by omega) h00 hr0).mono ?_
  rintro e w1 ⟨a1, rfl, h10, hr1, hb1⟩
  go_wp2_with fail
  refine (clone10_any a1 n0 n0 (fn F) _ (by omega) (fun h => ⟨h10 h, h10 h⟩) hr1).mono ?_
  rintro e w2 ⟨a2, rfl, _, hr2, hb2⟩
  have hr1' := hr1.later hb2
  rw [← HF.out] at hr1'
  obtain ⟨hcc, hcb⟩ := hr1'.cells
  rw [HF.out] at hcb
  have HC : Hid (∀ b, a1 = some b → ∀ j u, (F.map (Value.int .u8))[j]? = some u → w2.cell? (b.add j) = some u) := hcc
  have HB : Hid (∀ b, a1 = some b → n0 ≠ 0 → b.block < w2.heap.size) := hcb
  have H10 : Hid (a1 = none → n0 = 0) := h10
  have hbW : Below w.heap.size w w2 := hb1.trans (hb2.mono hb1.size)
  clear hcc hcb h10 hr1' hr1 hr0 h00 hb1 hb2
  go_wp2_with fail
  refine (zzlit_any a1 n0 n0 F s _ HF.out (Nat.le_refl _) (fun h => ⟨H10.out h, H10.out h⟩) HC.out HB.out (by omega)).mono ?_
  rintro e w3 ⟨v3, rfl, hb3⟩
  have hl := lit_len s.data.toList
  have he := (enc_len s.data.toList).2
  have hz : s.data.toList.length = s.size := by simp
  have hLL : (F ++ lit s.data.toList).length = n0 + (lit s.data.toList).length := by rw [List.length_append, HF.out]
  obtain ⟨N, hN⟩ : ∃ N, N = (lit s.data.toList).length := ⟨_, rfl⟩
  obtain ⟨gb, cap, hv3, hcap, hgb, hcell⟩ := hb3.cellsAt (by omega)
  rw [hLL, ← hN] at hv3 hcap
  have n1 : 2 ≤ N := by omega
  have n2 : N ≤ 6291458 := by omega
  have HN : Hid (N = (lit s.data.toList).length) := hN
  have hfin : Below w.heap.size w w3 := hbW.trans (hb3.1.mono hbW.size)
  have hr2' := hr2.later hb3.1
  have hout : Row .u8 w3 (some ⟨gb, 0, none⟩) n0 (fn (F ++ lit s.data.toList)) := .inr ⟨gb, 0, rfl, hgb, fun i hi => by rw [Nat.zero_add]; exact hcell i (by omega)⟩
  have HL : Hid (∀ i, i < n0 → fn (F ++ lit s.data.toList) i = fn F i) := fun i hi => fn_left F _ i (by rw [HF.out]; exact hi)
  have HR : Hid (∀ i, i < N → w3.cell? ⟨gb, n0 + i, none⟩ = some (.int .u8 (fn (lit s.data.toList) i))) := fun i hi => by
    rw [hcell (n0 + i) (by omega), ← HF.out, fn_right]
  clear hl he hz hLL hN hcell hb3 hbW hr2
  rw [hv3]
  clear hv3
  go_wp2_with fail
  refine (equal_any _ cap a2 n0 n0 (fn (F ++ lit s.data.toList)) (fn F) _ (by omega) hout hr2' HL.out).mono ?_
  rintro e w4 ⟨rfl, m, rfl⟩
  have hne : ¬ cap = n0 := by omega
  have hne2 : ¬ n0 = cap := by omega
  go_wp2_with fail
  refine (dec_any gb n0 N (cap - n0) s.data.toList (w3.drewN m) HN.out (by omega) HR.out hgb).mono ?_
  rintro e w5 ⟨v5, rfl, hb5⟩
  obtain ⟨a5, c5, hv5, hr5⟩ := hb5.row
  have hz : (bytes s.data.toList).length = s.size := by rw [bytes_len]; simp
  rw [hz] at hv5 hr5
  have hend : Below w.heap.size w w5 := (below_drewN hfin m).trans (hb5.1.mono hfin.size)
  rw [hv5]
  clear hv5 hz hb5 hfin hne hne2 hout hr2'
  go_wp2_with fail
  refine (beq_any a5 c5 s _ (by omega) hr5).mono ?_
  rintro e w6 ⟨rfl, q, rfl⟩
  go_wp2
  go_ret
  exact ⟨rfl, below_drewN hend _⟩

/-- Outside the domain the law says true by its own text. -/
theorem back_out (a0 : Option Addr) (n0 c0 : Nat) (s : ByteArray) (w : World) (m0 : n0 ≤ 9223372036854775807) (m1 : s.size ≤ 9223372036854775807)
    (h : 1048576 < n0 ∨ (n0 ≤ 1048576 ∧ 1048576 < s.size) ∨ (n0 ≤ 1048576 ∧ s.size ≤ 1048576 ∧ 1048576 < n0 + s.size)) :
    Calls Trym.prog 3 #[.slice a0 n0 c0, .string s] w fun e w' => e = .returned (.bool true) ∧ Below w.heap.size w w' := by
  rcases h with h | ⟨h, h'⟩ | ⟨h, h', h''⟩
  all_goals
    go_enter Trym.func3, Trym.ntmps3
    go_wp2_with fail
    refine (zz9 a0 n0 c0 s _).mono ?_
    rintro e w ⟨b, rfl, rfl⟩
    cases b
    all_goals
      go_wp2
      go_ret
      exact ⟨rfl, Below.refl _ _⟩
end Go.Proofs.Qxb6601992aMods.Js
