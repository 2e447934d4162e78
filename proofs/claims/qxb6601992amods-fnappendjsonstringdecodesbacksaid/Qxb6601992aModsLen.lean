/-
  The walk of 'FnAppendJSONStringLengthBounds' (5).
-/
import Derived.Test.Qxb6601992aModsEnc
namespace Go.Proofs.Qxb6601992aMods.Js
open Go.ChangeShapes Go.WideShapes Go.ChangeAt Go.RowKit
set_option linter.unusedVariables false

theorem zz16 (s : ByteArray) (w : World) : Calls Trym.prog 16 #[.string s] w fun e w' => ∃ b, e = .returned (.bool b) ∧ w' = w := by
  go_enter Trym.func16, Trym.ntmps16
  go_wp2
  all_goals (go_ret; exact ⟨_, rfl, rfl⟩)

set_option maxHeartbeats 400000 in
theorem zzlit_any (a : Option Addr) (n c : Nat) (F : List Int) (s : ByteArray) (w : World) (hF : F.length = n) (hcap : c ≤ n) (h00 : a = none → n = 0 ∧ c = 0) (hcells : ∀ b, a = some b → ∀ j u, (F.map (Value.int .u8))[j]? = some u → w.cell? (b.add j) = some u) (hb : ∀ b, a = some b → n ≠ 0 → b.block < w.heap.size) (hlen : n + 6 * s.size + 2 ≤ 1099511627776) :
    Calls Trym.prog 11 #[.slice a n c, .string s] w fun e w' => ∃ v', e = .returned v' ∧ Buf w w' v' (F ++ lit s.data.toList) := by
  have H : Hid (Calls Trym.prog 23 #[.slice a n c, .string s] w fun e w' => ∃ v', e = .returned v' ∧ Buf w w' v' (F ++ lit s.data.toList)) := lit_any a n c F s w hF hcap h00 hcells hb hlen
  clear hF h00 hcells hb
  go_enter Trym.func11, Trym.ntmps11
  go_wp2_with fail
  refine Calls.mono H.out ?_
  rintro e w' ⟨v', rfl, hv⟩
  go_wp2
  go_ret
  exact ⟨_, rfl, hv⟩

/-- The literal onto nil. -/
theorem zzlit_nil (s : ByteArray) (w : World) (hlen : 6 * s.size + 2 ≤ 1099511627776) :
    Calls Trym.prog 11 #[.slice none 0 0, .string s] w fun e w' => ∃ v', e = .returned v' ∧ Buf w w' v' (lit s.data.toList) :=
  zzlit_any none 0 0 [] s w rfl (Nat.le_refl _) (fun _ => ⟨rfl, rfl⟩) (fun b h => by cases h) (fun b h => by cases h) (by omega)

theorem Buf.form {W w : World} {v : Value} {L : List Int} (h : Buf W w v L) : ∃ a c, v = .slice a L.length c := by
  rcases h.2.2 with ⟨rfl, h0⟩ | ⟨g, cap, cur, rfl, _⟩
  · exact ⟨none, 0, by rw [h0]⟩
  · exact ⟨_, cap, rfl⟩

/-! ### The plain law -/
def plainB (c : UInt8) : Bool := !(decide (c.toNat = 34) || decide (c.toNat = 92) || decide (c.toNat < 32))
theorem esc_plain (c : UInt8) : plainB c = true ↔ (esc c).length = 1 := by
  unfold plainB esc
  by_cases h1 : c.toNat = 34 ∨ c.toNat = 92
  · rw [if_pos h1]; rcases h1 with h | h <;> simp [h]
  · rw [if_neg h1]
    by_cases h2 : c.toNat < 32
    · rw [if_pos h2]; simp [h2]
    · rw [if_neg h2]; simp [h2]; omega
theorem enc_plain (l : List UInt8) : l.all plainB = true ↔ (enc l).length = l.length := by
  induction l with
  | nil => simp [enc]
  | cons c l ih =>
    have h := esc_len c
    have h2 := enc_len l
    have h3 := esc_plain c
    have e : (enc (c :: l)).length = (esc c).length + (enc l).length := by simp [enc]
    rw [List.all_cons, Bool.and_eq_true, ih, h3, e, List.length_cons]
    omega
theorem lit_len (l : List UInt8) : (lit l).length = (enc l).length + 2 := by simp [lit]
theorem all_snoc (s : ByteArray) (k : Nat) (h : k < s.size) : (s.data.toList.take (k + 1)).all plainB = ((s.data.toList.take k).all plainB && plainB s[k]) := by
  rw [take_snoc s k h]; simp

set_option maxHeartbeats 1000000 in
theorem len_law (s : ByteArray) (w : World) (hs : s.size ≤ 1048576) :
    Calls Trym.prog 5 #[.string s] w fun e w' => e = .returned (.bool true) ∧ Below w.heap.size w w' := by
  go_enter Trym.func5, Trym.ntmps5
  go_wp2_with fail
  refine (zz16 s _).mono ?_
  rintro e w ⟨b, rfl, rfl⟩
  cases b
  · go_wp2
    go_ret
    exact ⟨rfl, Below.refl _ _⟩
  go_wp2_with fail
  refine (zzlit_nil s _ (by omega)).mono ?_
  rintro e w1 ⟨v', rfl, hbuf⟩
  obtain ⟨a, c, hv⟩ := hbuf.form
  have hll := lit_len s.data.toList
  have hel := enc_len s.data.toList
  have hsz : s.data.toList.length = s.size := by simp
  obtain ⟨N, hN⟩ : ∃ N, N = (lit s.data.toList).length := ⟨_, rfl⟩
  rw [← hN] at hv
  have b1 : s.size + 2 ≤ N := by omega
  have b2 : N ≤ 6 * s.size + 2 := by omega
  have HA : Hid (s.data.toList.all plainB = true ↔ N = s.size + 2) := by show _ ↔ _; rw [enc_plain]; omega
  have hbel := hbuf.1
  clear hbuf hll hel hsz hN
  rw [hv]
  go_wp2_with fail
  go_loop [5, 6] (fun b i => ∃ k : Nat, k ≤ s.size ∧ i = .int .i64 k ∧ b = .bool ((s.data.toList.take k).all plainB)) (fun _ i => s.size - (intOf i).toNat)
  case atStart => exact ⟨0, Nat.zero_le _, rfl, rfl⟩
  case round =>
    obtain ⟨k, hk, rfl, rfl⟩ := hrel
    by_cases hlt : k < s.size
    · have HS : Hid ((s.data.toList.take (k + 1)).all plainB = ((s.data.toList.take k).all plainB && plainB s[k])) := all_snoc s k hlt
      obtain ⟨B, hB⟩ : ∃ B, B = (s.data.toList.take k).all plainB := ⟨_, rfl⟩
      rw [← hB]
      rw [← hB] at HS
      clear hB
      by_cases h34 : s[k].toNat = 34
      · have e1 : ((s[k].toNat : Int) == 34) = true := by simp; omega
        have HP : Hid (plainB s[k] = false) := by show _ = _; unfold plainB; simp [h34]
        clear h34
        go_wp2
        go_round
        case rel => exact ⟨k + 1, by omega, by go_num, by rw [HS.out, HP.out]; simp⟩
        case measure => simp [intOf]; omega
      have e1 : ((s[k].toNat : Int) == 34) = false := by simp; omega
      by_cases h92 : s[k].toNat = 92
      · have e2 : ((s[k].toNat : Int) == 92) = true := by simp; omega
        have HP : Hid (plainB s[k] = false) := by show _ = _; unfold plainB; simp [h92]
        clear h34 h92
        go_wp2
        go_round
        case rel => exact ⟨k + 1, by omega, by go_num, by rw [HS.out, HP.out]; simp⟩
        case measure => simp [intOf]; omega
      have e2 : ((s[k].toNat : Int) == 92) = false := by simp; omega
      by_cases h32 : s[k].toNat < 32
      · have h32' : (s[k].toNat : Int) < 32 := by omega
        have HP : Hid (plainB s[k] = false) := by show _ = _; unfold plainB; simp [h32]
        clear h34 h92
        go_wp2
        go_round
        case rel => exact ⟨k + 1, by omega, by go_num, by rw [HS.out, HP.out]; simp⟩
        case measure => simp [intOf]; omega
      · have h32' : (32 : Int) ≤ (s[k].toNat : Int) := by omega
        have HP : Hid (plainB s[k] = true) := by show _ = _; unfold plainB; simp [h32, h34, h92]
        clear h34 h92
        go_wp2
        go_round
        case rel => exact ⟨k + 1, by omega, by go_num, by rw [HS.out, HP.out]; simp⟩
        case measure => simp [intOf]; omega
    · have eT : s.data.toList.take k = s.data.toList := List.take_of_length_le (by simp; omega)
      rw [eT]
      obtain ⟨B, hB⟩ : ∃ B, B = s.data.toList.all plainB := ⟨_, rfl⟩
      rw [← hB] at HA ⊢
      clear hB eT
      cases B
      · have hne : ((N : Int) == (s.size : Int) + 2) = false := by
          have := HA.out
          simp at this ⊢
          omega
        go_wp2
        go_ret
        exact ⟨rfl, hbel⟩
      · have hne : ((N : Int) == (s.size : Int) + 2) = true := by
          have := HA.out
          simp at this ⊢
          omega
        go_wp2
        go_ret
        exact ⟨rfl, hbel⟩

theorem len_out (s : ByteArray) (w : World) (m : s.size ≤ 9223372036854775807) (hs : 1048576 < s.size) :
    Calls Trym.prog 5 #[.string s] w fun e w' => e = .returned (.bool true) ∧ Below w.heap.size w w' := by
  go_enter Trym.func5, Trym.ntmps5
  go_wp2_with fail
  refine (zz16 s _).mono ?_
  rintro e w ⟨b, rfl, rfl⟩
  cases b
  all_goals
    go_wp2
    go_ret
    exact ⟨rfl, Below.refl _ _⟩
end Go.Proofs.Qxb6601992aMods.Js
