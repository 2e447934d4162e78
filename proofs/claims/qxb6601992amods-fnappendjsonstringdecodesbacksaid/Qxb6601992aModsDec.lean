/-
  The contract of 'decodeCanonicalJSONString' (13), at a literal.
-/
import Derived.Test.Qxb6601992aModsConc
namespace Go.Proofs.Qxb6601992aMods.Js
open Go.ChangeShapes Go.WideShapes Go.ChangeAt Go.RowKit
set_option linter.unusedVariables false

/-! ### The plain law: what stands where in a literal -/
def bytes (l : List UInt8) : List Int := l.map fun c => (c.toNat : Int)
theorem enc_cons (c : UInt8) (l : List UInt8) : enc (c :: l) = esc c ++ enc l := by simp [enc]
theorem lit_split (l : List UInt8) (m : Nat) (h : m < l.length) : lit l = (34 :: enc (l.take m)) ++ (esc l[m] ++ (enc (l.drop (m + 1)) ++ [34])) := by
  have e : l = l.take m ++ l[m] :: l.drop (m + 1) := by simp
  have e2 : enc l = enc (l.take m) ++ (esc l[m] ++ enc (l.drop (m + 1))) := by
    conv => lhs; rw [e]
    rw [enc_append, enc_cons]
  unfold lit
  rw [e2]
  simp
theorem lit_at (l : List UInt8) (m : Nat) (h : m < l.length) (t : Nat) (ht : t < (esc l[m]).length) : fn (lit l) (1 + (enc (l.take m)).length + t) = (esc l[m])[t] := by
  unfold fn
  rw [lit_split l m h, List.getD_eq_getElem?_getD, List.getElem?_append_right (by simp; omega)]
  have e : 1 + (enc (l.take m)).length + t - (34 :: enc (l.take m)).length = t := by simp; omega
  rw [e, List.getElem?_append_left ht, List.getElem?_eq_getElem ht]
  rfl
theorem lit_room (l : List UInt8) (m : Nat) (h : m < l.length) : 1 + (enc (l.take m)).length + (esc l[m]).length < (lit l).length := by
  rw [lit_split l m h]; simp; omega
theorem enc_next (l : List UInt8) (m : Nat) (h : m < l.length) : (enc (l.take (m + 1))).length = (enc (l.take m)).length + (esc l[m]).length := by
  rw [List.take_succ_eq_append_getElem h, enc_append, enc_one, List.length_append]
theorem bytes_next (l : List UInt8) (m : Nat) (h : m < l.length) : bytes (l.take (m + 1)) = bytes (l.take m) ++ [(l[m].toNat : Int)] := by
  unfold bytes; rw [List.take_succ_eq_append_getElem h, List.map_append]; rfl
theorem bytes_len (l : List UInt8) : (bytes l).length = l.length := by simp [bytes]
theorem lit_last (l : List UInt8) : fn (lit l) (1 + (enc l).length) = 34 := by
  unfold fn lit
  rw [List.getD_eq_getElem?_getD, Nat.add_comm, List.getElem?_cons_succ, List.getElem?_append_right (Nat.le_refl _)]
  simp
theorem lit_first (l : List UInt8) : fn (lit l) 0 = 34 := by simp [fn, lit]

/-! ### A hexadecimal digit -/
theorem hex_low (n : Nat) (w : World) (h : n < 10) : Calls Trym.prog 24 #[.int .u8 (48 + n)] w fun e w' => e = .returned (.tuple #[.int .i64 n, .bool true]) ∧ w' = w := by
  go_enter Trym.func24, Trym.ntmps24
  go_wp2
  go_ret2
  exact ⟨by simp; omega, rfl⟩
theorem hex_high (n : Nat) (w : World) (h : 10 ≤ n) (h' : n < 16) : Calls Trym.prog 24 #[.int .u8 (87 + n)] w fun e w' => e = .returned (.tuple #[.int .i64 n, .bool true]) ∧ w' = w := by
  go_enter Trym.func24, Trym.ntmps24
  go_wp2
  go_ret2
  exact ⟨by simp; omega, rfl⟩
theorem hex_any (n : Nat) (w : World) (h : n < 16) : Calls Trym.prog 24 #[.int .u8 (hexd n)] w fun e w' => e = .returned (.tuple #[.int .i64 n, .bool true]) ∧ w' = w := by
  unfold hexd
  split
  · exact hex_low n w ‹_›
  · exact hex_high n w (by omega) h
/-! ### The decoder -/
/-- What the decoder finds at the place of byte m. -/
theorem dec_cells {b off N : Nat} {l : List UInt8} {w wr : World} {m P : Nat} (hc : ∀ i, i < N → w.cell? ⟨b, off + i, none⟩ = some (.int .u8 (fn (lit l) i))) (hbW : Below w.heap.size w wr) (hb : b < w.heap.size) (hN : N = (lit l).length) (hm : m < l.length) (hP : P = 1 + (enc (l.take m)).length) {E : List Int} (hE : esc l[m] = E) :
    (∀ t, t < E.length → wr.cell? ⟨b, off + (P + t), none⟩ = some (.int .u8 (fn E t))) ∧ P + E.length < N ∧ P + E.length = 1 + (enc (l.take (m + 1))).length := by
  subst hE
  have hroom := lit_room l m hm
  have hnext := enc_next l m hm
  refine ⟨fun t ht => ?_, by omega, by omega⟩
  rw [hbW.cell (p := ⟨b, off + (P + t), none⟩) hb, hc (P + t) (by omega), hP, lit_at l m hm t ht]
  simp [fn, ht]

theorem esc_quote {c : UInt8} (h : c.toNat = 34) : esc c = [92, 34] := by unfold esc; rw [if_pos (.inl h), h]; rfl
theorem esc_back {c : UInt8} (h : c.toNat = 92) : esc c = [92, 92] := by unfold esc; rw [if_pos (.inr h), h]; rfl
theorem esc_ctrl {c : UInt8} (h : c.toNat < 32) : esc c = [92, 117, 48, 48, hexd (c.toNat / 16), hexd (c.toNat % 16)] := by unfold esc; rw [if_neg (by omega), if_pos h]
theorem esc_bare {c : UInt8} (h1 : c.toNat ≠ 34) (h2 : c.toNat ≠ 92) (h3 : ¬ c.toNat < 32) : esc c = [(c.toNat : Int)] := by unfold esc; rw [if_neg (by omega), if_neg h3]

set_option maxRecDepth 100000 in
set_option maxHeartbeats 1000000 in
theorem dec_any (b off N c : Nat) (l : List UInt8) (w : World) (hN : N = (lit l).length) (hNs : N ≤ 16777216) (hc : ∀ i, i < N → w.cell? ⟨b, off + i, none⟩ = some (.int .u8 (fn (lit l) i))) (hb : b < w.heap.size) :
    Calls Trym.prog 13 #[.slice (some ⟨b, off, none⟩) N c] w fun e w' => ∃ v, e = .returned (.tuple #[v, .bool true]) ∧ Buf w w' v (bytes l) := by
  have HN : Hid (N = (lit l).length) := hN
  have h2 : 2 ≤ N := by rw [hN, lit_len]; omega
  have hfirst := hc 0 (by omega)
  rw [lit_first, Nat.add_zero] at hfirst
  clear hN
  obtain ⟨i0, hi0, hz0, hz1, hz2⟩ := info_parts info5
  have HC : Hid (∀ i, i < N → w.cell? ⟨b, off + i, none⟩ = some (.int .u8 (fn (lit l) i))) := hc
  clear hc
  go_enter Trym.func13, Trym.ntmps13
  go_wp2_with (at_make; refine wpList_make_own _ rfl _ _ 22 rfl w.heap.size 5 i0 (.int .u8 0) 1 Trym.underlying22 hi0 hz0 hz1 .i64 .i64 _ N rfl rfl ?q1 ?q2 ?q3 (Nat.le_refl _) ?_)
  case q1 => rfl
  case q2 => rw [hz2]; omega
  case q3 => unfold maxLen; omega
  intro w4 ho4 hg4
  have hb4 := Buf.made ho4 hg4
  clear ho4 hg4 hi0 hz0 hz1 hz2
  go_wp2_with fail
  go_loopw [4, 5] (fun v i wr => ∃ m P : Nat, m ≤ l.length ∧ Hid (P = 1 + (enc (l.take m)).length) ∧ i = .int .i64 P ∧ P < N ∧ Buf w wr v (bytes (l.take m))) (fun _ i _ => N - (intOf i).toNat)
  case atStart => exact ⟨0, 1, Nat.zero_le _, rfl, rfl, by omega, hb4⟩
  case round =>
    obtain ⟨m, P, hm', HP, rfl, hPN, hbuf⟩ := hrel
    clear hb4 hfirst
    have hbl : (bytes (l.take m)).length ≤ N := by
      rw [bytes_len]
      have h1 := (enc_len l).1
      have h3 : (l.take m).length ≤ l.length := by simp; omega
      have h4 := HN.out
      rw [lit_len] at h4
      omega
    by_cases hm : m < l.length
    · by_cases h34 : l[m].toNat = 34
      · obtain ⟨hcells, hroom, hnext⟩ := dec_cells HC.out hbuf.1 hb HN.out hm HP.out (esc_quote h34)
        have k0 : wr.cell? ⟨b, off + P, none⟩ = some (.int .u8 92) := hcells 0 (by decide)
        have k1 : wr.cell? ⟨b, off + (P + 1), none⟩ = some (.int .u8 34) := hcells 1 (by decide)
        have HX : Hid ((l[m].toNat : Int) = 34) := by show _ = _; omega
        have HQ : Hid (P + 2 = 1 + (enc (l.take (m + 1))).length) := hnext
        have hroom' : P + 2 < N := hroom
        clear hcells hnext h34 hroom
        go_wp2_with (at_builtin; refine buf_append w _ rfl (.tmp 67) (.tmp 69) rfl _ _ rfl (hbuf.alloc _) ⟨wr.heap.size, 0, none⟩ [34] 1 1 rfl rfl ?q1 ?q2 ?_)
        case q1 => exact World.news_of_block (heap_alloc_new _ _)
        case q2 => omega
        intro v2 w2 hb2
        have R : Buf w w2 v2 (bytes (l.take (m + 1))) := by rw [bytes_next l m hm, HX.out]; exact hb2
        clear hbuf hb2
        go_wp2
        go_roundw
        case rel => exact ⟨m + 1, P + 2, by omega, HQ.out, by go_num, by omega, R⟩
        case measure => simp [intOf]; omega
      by_cases h92 : l[m].toNat = 92
      · obtain ⟨hcells, hroom, hnext⟩ := dec_cells HC.out hbuf.1 hb HN.out hm HP.out (esc_back h92)
        have k0 : wr.cell? ⟨b, off + P, none⟩ = some (.int .u8 92) := hcells 0 (by decide)
        have k1 : wr.cell? ⟨b, off + (P + 1), none⟩ = some (.int .u8 92) := hcells 1 (by decide)
        have HX : Hid ((l[m].toNat : Int) = 92) := by show _ = _; omega
        have HQ : Hid (P + 2 = 1 + (enc (l.take (m + 1))).length) := hnext
        have hroom' : P + 2 < N := hroom
        clear hcells hnext h34 h92 hroom
        go_wp2_with (at_builtin; refine buf_append w _ rfl (.tmp 67) (.tmp 69) rfl _ _ rfl (hbuf.alloc _) ⟨wr.heap.size, 0, none⟩ [92] 1 1 rfl rfl ?q1 ?q2 ?_)
        case q1 => exact World.news_of_block (heap_alloc_new _ _)
        case q2 => omega
        intro v2 w2 hb2
        have R : Buf w w2 v2 (bytes (l.take (m + 1))) := by rw [bytes_next l m hm, HX.out]; exact hb2
        clear hbuf hb2
        go_wp2
        go_roundw
        case rel => exact ⟨m + 1, P + 2, by omega, HQ.out, by go_num, by omega, R⟩
        case measure => simp [intOf]; omega
      by_cases h32 : l[m].toNat < 32
      · obtain ⟨hcells, hroom, hnext⟩ := dec_cells HC.out hbuf.1 hb HN.out hm HP.out (esc_ctrl h32)
        have k0 : wr.cell? ⟨b, off + P, none⟩ = some (.int .u8 92) := hcells 0 (Nat.lt_of_sub_eq_succ rfl)
        have k1 : wr.cell? ⟨b, off + (P + 1), none⟩ = some (.int .u8 117) := hcells 1 (Nat.lt_of_sub_eq_succ rfl)
        have k2 : wr.cell? ⟨b, off + (P + 2), none⟩ = some (.int .u8 48) := hcells 2 (Nat.lt_of_sub_eq_succ rfl)
        have k3 : wr.cell? ⟨b, off + (P + 3), none⟩ = some (.int .u8 48) := hcells 3 (Nat.lt_of_sub_eq_succ rfl)
        have k4 : wr.cell? ⟨b, off + (P + 4), none⟩ = some (.int .u8 (hexd (l[m].toNat / 16))) := hcells 4 (Nat.lt_of_sub_eq_succ rfl)
        have k5 : wr.cell? ⟨b, off + (P + 5), none⟩ = some (.int .u8 (hexd (l[m].toNat % 16))) := hcells 5 (Nat.lt_of_sub_eq_succ rfl)
        obtain ⟨y, hy⟩ : ∃ y : Nat, l[m].toNat = y := ⟨_, rfl⟩
        rw [hy] at k4 k5
        have hy32 : y < 32 := by omega
        have HX : Hid ((l[m].toNat : Int) = (y : Int)) := by show _ = _; omega
        have HQ : Hid (P + 6 = 1 + (enc (l.take (m + 1))).length) := hnext
        have hroom' : P + 6 < N := hroom
        clear hcells hnext h34 h92 h32 hroom hy
        go_wp2_with fail
        refine (hex_any (y / 16) _ (by omega)).mono ?_
        rintro e wr ⟨rfl, rfl⟩
        go_wp2_with fail
        refine (hex_any (y % 16) _ (by omega)).mono ?_
        rintro e wr ⟨rfl, rfl⟩
        have hd := Nat.div_add_mod y 16
        go_wp2_with (at_builtin; refine buf_append w _ rfl (.tmp 126) (.tmp 129) rfl _ _ rfl (hbuf.alloc _) ⟨wr.heap.size, 0, none⟩ [_] 1 1 rfl rfl (World.news_of_block (heap_alloc_new _ _)) ?q2 ?_)
        case q2 => omega
        intro v2 w2 hb2
        have R : Buf w w2 v2 (bytes (l.take (m + 1))) := by
          rw [bytes_next l m hm, HX.out]
          have ey : (y : Int) / 16 * 16 + (y : Int) % 16 = (y : Int) := by omega
          rw [← ey]
          exact hb2
        clear hbuf hb2
        go_wp2
        go_roundw
        case rel => exact ⟨m + 1, P + 6, by omega, HQ.out, by go_num, by omega, R⟩
        case measure => simp [intOf]; omega
      · obtain ⟨hcells, hroom, hnext⟩ := dec_cells HC.out hbuf.1 hb HN.out hm HP.out (esc_bare h34 h92 h32)
        obtain ⟨x, hx⟩ : ∃ x : Int, (l[m].toNat : Int) = x := ⟨_, rfl⟩
        have k0 : wr.cell? ⟨b, off + P, none⟩ = some (.int .u8 (l[m].toNat : Int)) := hcells 0 (Nat.lt_succ_self 0)
        rw [hx] at k0
        have HX : Hid ((l[m].toNat : Int) = x) := hx
        have HQ : Hid (P + 1 = 1 + (enc (l.take (m + 1))).length) := hnext
        have e1 : (x == 34) = false := by simp; omega
        have e2 : (x == 92) = false := by simp; omega
        have e3 : (x != 92) = true := by simp; omega
        have e4 : ¬ x < 32 := by omega
        have hroom' : P + 1 < N := hroom
        clear hcells hnext h34 h92 h32 hx hroom
        go_wp2_with (at_builtin; refine buf_append w _ rfl (.tmp 45) (.tmp 47) rfl _ _ rfl (hbuf.alloc _) ⟨wr.heap.size, 0, none⟩ [x] 1 1 rfl rfl ?q1 ?q2 ?_)
        case q2 => omega
        intro v2 w2 hb2
        have R : Buf w w2 v2 (bytes (l.take (m + 1))) := by rw [bytes_next l m hm, HX.out]; exact hb2
        clear hbuf hb2
        go_wp2
        go_roundw
        case rel => exact ⟨m + 1, P + 1, by omega, HQ.out, by go_num, by omega, R⟩
        case measure => simp [intOf]; omega
    · have eT : l.take m = l := List.take_of_length_le (by omega)
      rw [eT] at hbuf
      have hP := HP.out
      rw [eT] at hP
      have hNN := HN.out
      rw [lit_len] at hNN
      have k0 : wr.cell? ⟨b, off + P, none⟩ = some (.int .u8 34) := by
        rw [hbuf.1.cell (p := ⟨b, off + P, none⟩) hb, HC.out P hPN, hP, lit_last]
      have hfin : (P : Int) = (N : Int) - 1 := by omega
      have e1 : ((P : Int) == (N : Int) - 1) = true := by simpa using hfin
      clear eT hP hNN hfin
      go_wp2
      go_ret2
      exact ⟨_, rfl, hbuf⟩
/-! ### bytesEqualString (14) -/
set_option maxHeartbeats 400000 in
theorem beq_some (b off c : Nat) (s : ByteArray) (w : World) (hn : s.size ≤ 9223372036854775807) (hc : ∀ i (h : i < s.size), w.cell? ⟨b, off + i, none⟩ = some (.int .u8 (s[i].toNat : Int))) :
    Calls Trym.prog 14 #[.slice (some ⟨b, off, none⟩) s.size c, .string s] w fun e w' => e = .returned (.bool true) ∧ ∃ m, w' = w.drewN m := by
  go_enter Trym.func14, Trym.ntmps14
  go_wp2
  go_loopw [5] (fun i wr => ∃ k : Nat, k ≤ s.size ∧ i = .int .i64 k ∧ ∃ m, wr = w.drewN m) (fun i _ => s.size - (intOf i).toNat)
  case atStart => exact ⟨0, Nat.zero_le _, rfl, 0, rfl⟩
  case round =>
    obtain ⟨k, hk, rfl, m, rfl⟩ := hrel
    by_cases hlt : k < s.size
    · have hck := hc k hlt
      have hi : (k : Int) < (s.size : Int) := by omega
      clear hc
      go_wp2
      go_quiet (fail)
      go_wp2
      go_roundw
      case rel => exact ⟨k + 1, by omega, by go_num, _, rfl⟩
      case measure => simp [intOf]; omega
    · go_wp2
      go_ret
      exact ⟨rfl, _, rfl⟩

set_option maxHeartbeats 400000 in
theorem beq_none (a : Option Addr) (c : Nat) (s : ByteArray) (w : World) (h : s.size = 0) :
    Calls Trym.prog 14 #[.slice a s.size c, .string s] w fun e w' => e = .returned (.bool true) ∧ ∃ m, w' = w.drewN m := by
  go_enter Trym.func14, Trym.ntmps14
  go_wp2
  refine wp_loop_rounds 1 ?_
  rw [rounds_succ]
  go_wp2
  go_ret
  exact ⟨rfl, 0, rfl⟩

theorem beq_any (a : Option Addr) (c : Nat) (s : ByteArray) (w : World) (hn : s.size ≤ 9223372036854775807) (h : Row .u8 w a s.size (fn (bytes s.data.toList))) :
    Calls Trym.prog 14 #[.slice a s.size c, .string s] w fun e w' => e = .returned (.bool true) ∧ ∃ m, w' = w.drewN m := by
  rcases h with h | ⟨b, off, rfl, _, hc⟩
  · exact beq_none a c s w h
  · refine beq_some b off c s w hn (fun i hi => ?_)
    rw [hc i hi]
    have : i < s.data.size := hi
    simp only [fn, bytes, List.getD_eq_getElem?_getD, List.getElem?_map, Array.getElem?_toList, Array.getElem?_eq_getElem this]
    rfl

theorem zz9 (a0 : Option Addr) (n0 c0 : Nat) (s : ByteArray) (w : World) : Calls Trym.prog 9 #[.slice a0 n0 c0, .string s] w fun e w' => ∃ b, e = .returned (.bool b) ∧ w' = w := by
  go_enter Trym.func9, Trym.ntmps9
  go_wp2
  all_goals (go_ret; exact ⟨_, rfl, rfl⟩)
end Go.Proofs.Qxb6601992aMods.Js
