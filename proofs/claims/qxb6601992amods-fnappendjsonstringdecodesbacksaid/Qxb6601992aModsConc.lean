/-
  The walk of 'FnAppendJSONStringConcatenates' (4).
-/
import Derived.Test.Qxb6601992aModsLen
import Derived.Test.Qxb6601992aModsSl
namespace Go.Proofs.Qxb6601992aMods.Js
open Go.ChangeShapes Go.WideShapes Go.ChangeAt Go.RowKit
set_option linter.unusedVariables false

theorem zz15 (a0 : Option Addr) (n0 c0 : Nat) (s1 s2 : ByteArray) (w : World) : Calls Trym.prog 15 #[.slice a0 n0 c0, .string s1, .string s2] w fun e w' => ∃ b, e = .returned (.bool b) ∧ w' = w := by
  go_enter Trym.func15, Trym.ntmps15
  go_wp2
  all_goals (go_ret; exact ⟨_, rfl, rfl⟩)

/-- A list as a function. -/
def fn (L : List Int) : Nat → Int := fun i => L.getD i 0

/-- The elements of a slice that came in, as a list. -/
theorem row_take {w : World} {a : Option Addr} {len : Nat} {zs : List Int} (h : Row .u8 w a len (fun i => zs.getD i 0)) : Row .u8 w a len (fn (zs.take len)) := by
  rcases h with h | ⟨b, off, ha, hlt, hc⟩
  · exact .inl h
  · exact .inr ⟨b, off, ha, hlt, fun i hi => by rw [hc i hi]; simp [fn, hi]⟩
theorem row_len {k : IntKind} {w : World} {a : Option Addr} {len cap : Nat} {zs : List Int} (h : (a = none ∧ len = 0 ∧ cap = 0 ∧ zs = []) ∨
    ∃ x, a = some x ∧ len ≤ cap ∧ cap ≤ maxLen ∧ zs.length = cap ∧ (∀ i, i < zs.length → w.cell? (x.add i) = some (.int k (zs.getD i 0))) ∧ ∀ n ∈ zs, (Lit.int k n).wf = true) : len ≤ zs.length := by
  rcases h with ⟨_, rfl, _, _⟩ | ⟨x, _, h1, _, h2, _⟩ <;> omega

/-- A buffer, read. -/
theorem Buf.row {W w : World} {v : Value} {L : List Int} (h : Buf W w v L) : ∃ a c, v = .slice a L.length c ∧ Row .u8 w a L.length (fn L) := by
  rcases h.2.2 with ⟨rfl, h0⟩ | ⟨g, cap, cur, rfl, hg, hh, r⟩
  · exact ⟨none, 0, by rw [h0], .inl h0⟩
  · refine ⟨_, cap, rfl, .inr ⟨g, 0, rfl, ?_, fun i hi => ?_⟩⟩
    · rw [Array.getElem?_eq_some_iff] at hh
      exact hh.1
    · rw [Nat.zero_add, h.2.cellAt i (by omega)]
      simp [fn, hi]

/-- What a row's cells are, for the law of append. -/
theorem Row.cells {w : World} {a : Option Addr} {F : List Int} (h : Row .u8 w a F.length (fn F)) : (∀ b, a = some b → ∀ j u, (F.map (Value.int .u8))[j]? = some u → w.cell? (b.add j) = some u) ∧ ∀ b, a = some b → F.length ≠ 0 → b.block < w.heap.size := by
  rcases h with h | ⟨b, off, rfl, hlt, hc⟩
  · have : F = [] := List.eq_nil_of_length_eq_zero h
    subst this
    exact ⟨fun b hb j u hj => by simp at hj, fun b _ h' => absurd rfl h'⟩
  · refine ⟨fun b' hb j u hj => ?_, fun b' hb _ => ?_⟩
    · obtain rfl : b' = ⟨b, off, none⟩ := by simpa using hb.symm
      have hjl := (List.getElem?_eq_some_iff.1 hj).1
      simp at hjl
      rw [add_plain, hc j hjl]
      simp [hjl] at hj
      simp [fn, hjl, hj]
    · obtain rfl : b' = ⟨b, off, none⟩ := by simpa using hb.symm
      exact hlt

theorem take_fn (L : List Int) (k : Nat) (h : k < L.length) : L.take (k + 1) = L.take k ++ [fn L k] := by
  rw [List.take_succ_eq_append_getElem h]
  simp [fn, h]

/-- A new buffer, empty, with room. -/
theorem Buf.made {w w' : World} {v : Value} (ho : w'.ownsRow w.heap.size 5 1 v 0 []) (hg : w.grownBy w' none) : Buf w w' v [] :=
  ⟨(Below.refl _ _).grown hg (Nat.le_refl _) (fun j hj => by cases hj), ho⟩

/-- F, and behind it the first k of L. -/
def cat2 (F L : List Int) (k : Nat) : List Int := F ++ L.take k
theorem cat2_next (F L : List Int) (k : Nat) (h : k < L.length) : cat2 F L (k + 1) = cat2 F L k ++ [fn L k] := by
  unfold cat2; rw [take_fn L k h, List.append_assoc]
theorem cat2_zero (F L : List Int) : cat2 F L 0 = F := by simp [cat2]
theorem cat2_all (L : List Int) : cat2 [] L L.length = L := by simp [cat2]
theorem cat2_len (F L : List Int) (k : Nat) : (cat2 F L k).length ≤ F.length + k := by
  have := List.length_take_le k L
  simp only [cat2, List.length_append]; omega
theorem fn_drop (L : List Int) (m : Nat) : fn (L.drop 1) m = fn L (m + 1) := by
  simp only [fn, List.getD_eq_getElem?_getD, List.getElem?_drop]
  congr 2; omega
/-- The plain law. -/
theorem conc_plain (F : List Int) (l1 l2 : List UInt8) (n1 n2 : Nat) (h1 : n1 = (lit l1).length) (h2 : n2 = (lit l2).length) : cat2 (cat2 F (lit l1) (n1 - 1)) ((lit l2).drop 1) (n2 - 1) = F ++ lit (l1 ++ l2) := by
  have e1 : (lit l1).take (n1 - 1) = 34 :: enc l1 := by
    have : lit l1 = (34 :: enc l1) ++ [34] := by simp [lit]
    rw [h1, this]
    simp
  have e2 : ((lit l2).drop 1).take (n2 - 1) = enc l2 ++ [34] := by
    rw [List.take_of_length_le (by simp [h2])]
    simp [lit]
  unfold cat2
  rw [e1, e2]
  simp [lit, enc_append]

set_option maxHeartbeats 1000000 in
theorem conc_law (a0 : Option Addr) (n0 c0 : Nat) (F : List Int) (s1 s2 : ByteArray) (w : World) (hF : F.length = n0) (g : n0 + s1.size + s2.size ≤ 1048576) (h00 : a0 = none → n0 = 0 ∧ c0 = 0) (hr0 : Row .u8 w a0 n0 (fn F)) :
    Calls Trym.prog 4 #[.slice a0 n0 c0, .string s1, .string s2] w fun e w' => e = .returned (.bool true) ∧ Below w.heap.size w w' := by
  have HF : Hid (F.length = n0) := hF
  clear hF
  go_enter Trym.func4, Trym.ntmps4
  go_wp2_with fail
  refine (zz15 a0 n0 c0 s1 s2 _).mono ?_
  rintro e w ⟨b, rfl, rfl⟩
  cases b
  · go_wp2
    go_ret
    exact ⟨rfl, Below.refl _ _⟩
  go_wp2_with fail
  refine (clone10_any a0 n0 c0 (fn F) _ (by omega) h00 hr0).mono ?_
  rintro e w1 ⟨a1, rfl, h10, hr1, hb1⟩
  go_wp2_with fail
  refine (zzlit_nil s1 _ (by omega)).mono ?_
  rintro e w2 ⟨v1, rfl, hbuf1⟩
  go_wp2_with fail
  refine (zzlit_nil s2 _ (by omega)).mono ?_
  rintro e w3 ⟨v2, rfl, hbuf2⟩
  -- the two literals, read
  obtain ⟨p1, q1, hv1, hrow1⟩ := hbuf1.row
  obtain ⟨p2, q2, hv2, hrow2⟩ := hbuf2.row
  have hl1 := lit_len s1.data.toList
  have he1 := (enc_len s1.data.toList).2
  have hl2 := lit_len s2.data.toList
  have he2 := (enc_len s2.data.toList).2
  have hz1 : s1.data.toList.length = s1.size := by simp
  have hz2 : s2.data.toList.length = s2.size := by simp
  have hbW : Below w.heap.size w w3 := (hb1.trans (hbuf1.1.mono hb1.size)).trans (hbuf2.1.mono (Nat.le_trans hb1.size hbuf1.1.size))
  have hr3 := (hr1.later hbuf1.1).later hbuf2.1
  have hrow1' := hrow1.later hbuf2.1
  clear hrow1 hbuf1 hbuf2 hr1 hr0 hb1
  obtain ⟨L1, hL1⟩ : ∃ L, L = lit s1.data.toList := ⟨_, rfl⟩
  obtain ⟨L2, hL2⟩ : ∃ L, L = lit s2.data.toList := ⟨_, rfl⟩
  rw [← hL1] at hv1 hrow1' hl1
  rw [← hL2] at hv2 hrow2 hl2
  obtain ⟨N1, hN1⟩ : ∃ N, N = L1.length := ⟨_, rfl⟩
  obtain ⟨N2, hN2⟩ : ∃ N, N = L2.length := ⟨_, rfl⟩
  rw [← hN1] at hv1 hrow1' hl1
  rw [← hN2] at hv2 hrow2 hl2
  have m1 : 2 ≤ N1 := by omega
  have m2 : 2 ≤ N2 := by omega
  have m3 : N1 ≤ 6 * s1.size + 2 := by omega
  have m4 : N2 ≤ 6 * s2.size + 2 := by omega
  have HL1 : Hid (L1 = lit s1.data.toList) := hL1
  have HL2 : Hid (L2 = lit s2.data.toList) := hL2
  have HN1 : Hid (N1 = L1.length) := hN1
  have HN2 : Hid (N2 = L2.length) := hN2
  clear hL1 hL2 hN1 hN2 hl1 hl2 he1 he2 hz1 hz2
  rcases hrow1' with h | ⟨b1, off1, hp1, hlt1, hc1⟩
  · omega
  rcases hrow2 with h | ⟨b2, off2, hp2, hlt2, hc2⟩
  · omega
  rw [hv1, hv2, hp1, hp2]
  clear hv1 hv2 hp1 hp2 p1 p2
  obtain ⟨i0, hi0, hz0, hz1, hz2⟩ := info_parts info5
  go_wp2_with (at_make; refine wpList_make_own _ rfl _ _ 22 rfl w3.heap.size 5 i0 (.int .u8 0) 1 Trym.underlying22 hi0 hz0 hz1 .i64 .i64 _ (n0 + N1 + N2) rfl rfl ?q1 ?q2 ?q3 (Nat.le_refl _) ?_)
  case q1 => omega
  case q2 => rw [hz2]; omega
  case q3 => unfold maxLen; omega
  intro w4 ho4 hg4
  have hb4 := Buf.made ho4 hg4
  clear ho4 hg4 hi0 hz0 hz1 hz2
  go_wp2_with fail
  -- the text
  go_loopw [9, 10] (fun v i wr => ∃ k : Nat, k ≤ n0 ∧ i = .int .i64 k ∧ Buf w3 wr v (cat2 [] F k)) (fun _ i _ => n0 - (intOf i).toNat)
  case atStart => exact ⟨0, Nat.zero_le _, rfl, by rw [cat2_zero]; exact hb4⟩
  case round =>
    obtain ⟨k, hk, rfl, hbuf⟩ := hrel
    clear hb4
    by_cases hlt : k < n0
    · rcases hr3 with h | ⟨b0, off0, ha1, hlt0, hc0⟩
      · omega
      subst ha1
      have hcell := (hbuf.1.cell (p := ⟨b0, off0 + k, none⟩) hlt0).trans (hc0 k hlt)
      have hlen := cat2_len [] F k
      simp only [List.length_nil] at hlen
      clear hc0
      go_wp2_with (at_builtin; refine buf_append w3 _ rfl (.tmp 70) (.tmp 75) rfl _ _ rfl (hbuf.alloc _) ⟨wr.heap.size, 0, none⟩ [fn F k] 1 1 rfl rfl ?q1 ?q2 ?_)
      case q1 => exact World.news_of_block (heap_alloc_new _ _)
      case q2 => omega
      intro v5 w5 hb5
      rw [← cat2_next [] F k (by rw [HF.out]; exact hlt)] at hb5
      clear hbuf
      go_wp2
      go_roundw
      case rel => exact ⟨k + 1, by omega, by go_num, hb5⟩
      case measure => simp [intOf]; omega
    · obtain rfl : n0 = k := by omega
      have hbF : Buf w3 wr u9 (cat2 F L1 0) := by
        have e := cat2_all F
        rw [HF.out] at e
        rw [cat2_zero, ← e]
        exact hbuf
      clear hbuf
      go_wp2_with fail
      -- the first literal, without its last byte
      go_loopw [9, 11] (fun v i wr => ∃ k : Nat, k + 1 ≤ N1 ∧ i = .int .i64 k ∧ Buf w3 wr v (cat2 F L1 k)) (fun _ i _ => N1 - (intOf i).toNat)
      case atStart => exact ⟨0, by omega, rfl, hbF⟩
      case round =>
        obtain ⟨k, hk, rfl, hbuf⟩ := hrel
        clear hbF
        by_cases hlt2 : k + 1 < N1
        · have hcell := (hbuf.1.cell (p := ⟨b1, off1 + k, none⟩) hlt1).trans (hc1 k (by omega))
          have hlen := cat2_len F L1 k
          rw [HF.out] at hlen
          go_wp2_with (at_builtin; refine buf_append w3 _ rfl (.tmp 84) (.tmp 89) rfl _ _ rfl (hbuf.alloc _) ⟨wr.heap.size, 0, none⟩ [fn L1 k] 1 1 rfl rfl ?q1 ?q2 ?_)
          case q1 => exact World.news_of_block (heap_alloc_new _ _)
          case q2 => omega
          intro v5 w5 hb5
          rw [← cat2_next F L1 k (by rw [← HN1.out]; omega)] at hb5
          clear hbuf
          go_wp2
          go_roundw
          case rel => exact ⟨k + 1, by omega, by go_num, hb5⟩
          case measure => simp [intOf]; omega
        · obtain rfl : N1 - 1 = k := by omega
          obtain ⟨G, hG⟩ : ∃ G, G = cat2 F L1 (N1 - 1) := ⟨_, rfl⟩
          have hGl : G.length ≤ n0 + N1 := by
            have := cat2_len F L1 (N1 - 1)
            rw [HF.out] at this
            rw [hG]; omega
          have HG : Hid (G = cat2 F L1 (N1 - 1)) := hG
          obtain ⟨D, hD⟩ : ∃ D, D = L2.drop 1 := ⟨_, rfl⟩
          have HD : Hid (D = L2.drop 1) := hD
          have HDn : Hid (D.length = N2 - 1) := by show _ = _; rw [hD, List.length_drop, ← HN2.out]
          rw [← hG, ← cat2_zero G D] at hbuf
          clear hG hc1 hD
          go_wp2_with fail
          -- the second literal, without its first byte
          go_loopw [9, 12] (fun v i wr => ∃ k : Nat, k + 1 ≤ N2 ∧ i = .int .i64 ((k : Int) + 1) ∧ Buf w3 wr v (cat2 G D k)) (fun _ i _ => N2 - (intOf i).toNat)
          case atStart => exact ⟨0, by omega, rfl, hbuf⟩
          case round =>
            clear hbuf
            obtain ⟨k, hk2, rfl, hbuf⟩ := hrel
            by_cases hlt3 : k + 1 < N2
            · have hcell := (hbuf.1.cell (p := ⟨b2, off2 + (k + 1), none⟩) (by assumption)).trans (hc2 (k + 1) (by omega))
              have hlen := cat2_len G D k
              go_wp2_with (at_builtin; refine buf_append w3 _ rfl (.tmp 97) (.tmp 102) rfl _ _ rfl (hbuf.alloc _) ⟨wr.heap.size, 0, none⟩ [fn L2 (k + 1)] 1 1 rfl rfl ?q1 ?q2 ?_)
              case q1 => exact World.news_of_block (heap_alloc_new _ _)
              case q2 => omega
              intro v5 w5 hb5
              rw [← fn_drop, ← HD.out, ← cat2_next G D k (by rw [HDn.out]; omega)] at hb5
              clear hbuf
              go_wp2
              go_roundw
              case rel => exact ⟨k + 1, by omega, by go_num, hb5⟩
              case measure => simp [intOf]; omega
            · obtain rfl : N2 - 1 = k := by omega
              clear hc2
              have hlast := conc_plain F s1.data.toList s2.data.toList N1 N2 (by rw [HN1.out, HL1.out]) (by rw [HN2.out, HL2.out])
              rw [← HL1.out, ← HL2.out, ← HG.out, ← HD.out] at hlast
              rw [hlast] at hbuf
              have hr5 := hr3.later hbuf.1
              rw [← HF.out] at hr5
              obtain ⟨hcc, hcb⟩ := hr5.cells
              rw [HF.out] at hcb
              have hsum : (s1 ++ s2).size = s1.size + s2.size := ByteArray.size_append ..
              have hdat : (s1 ++ s2).data.toList = s1.data.toList ++ s2.data.toList := by simp [ByteArray.data_append]
              have HS : Hid ((s1 ++ s2).size = s1.size + s2.size) := hsum
              have HDat : Hid ((s1 ++ s2).data.toList = s1.data.toList ++ s2.data.toList) := hdat
              have HC : Hid (∀ b, a1 = some b → ∀ j u, (F.map (Value.int .u8))[j]? = some u → wr.cell? (b.add j) = some u) := hcc
              have HB : Hid (∀ b, a1 = some b → n0 ≠ 0 → b.block < wr.heap.size) := hcb
              have H10 : Hid (a1 = none → n0 = 0) := h10
              clear hsum hdat hcc hcb h10 hlast hr5
              go_wp2_with fail
              refine (zzlit_any a1 n0 n0 F (s1 ++ s2) _ HF.out (Nat.le_refl _) (fun h => ⟨H10.out h, H10.out h⟩) HC.out HB.out (by rw [HS.out]; omega)).mono ?_
              rintro e w6 ⟨v6, rfl, hb6⟩
              rw [HDat.out] at hb6
              obtain ⟨a9, c9, hv9, hr9⟩ := hbuf.row
              obtain ⟨a6, c6, hv6, hr6⟩ := hb6.row
              have hr9' := hr9.later hb6.1
              have hfin : Below w.heap.size w w6 := (hbW.trans (hbuf.1.mono hbW.size)).trans (hb6.1.mono (Nat.le_trans hbW.size hbuf.1.size))
              have hml : (F ++ lit (s1.data.toList ++ s2.data.toList)).length ≤ 9223372036854775807 := by
                have h1 := lit_len (s1.data.toList ++ s2.data.toList)
                have h2 := (enc_len (s1.data.toList ++ s2.data.toList)).2
                have h3 : (s1.data.toList ++ s2.data.toList).length = s1.size + s2.size := by simp
                rw [List.length_append, HF.out, h1]
                omega
              clear hbuf hb6 hr9 hr3
              obtain ⟨M, hM⟩ : ∃ M, M = F ++ lit (s1.data.toList ++ s2.data.toList) := ⟨_, rfl⟩
              rw [← hM] at hv9 hr9' hv6 hr6 hml
              clear hM
              go_wp2_with fail
              refine (equal_any a6 c6 a9 c9 M.length (fn M) (fn M) _ hml hr6 hr9' (fun _ _ => rfl)).mono ?_
              rintro e w7 ⟨rfl, m, rfl⟩
              go_wp2
              go_ret
              exact ⟨rfl, below_drewN hfin _⟩

/-- Outside the domain the law says true by its own text. -/
theorem conc_out (a0 : Option Addr) (n0 c0 : Nat) (s1 s2 : ByteArray) (w : World) (m0 : n0 ≤ 9223372036854775807) (m1 : s1.size ≤ 9223372036854775807) (m2 : s2.size ≤ 9223372036854775807)
    (h : 1048576 < n0 ∨ (n0 ≤ 1048576 ∧ 1048576 < s1.size) ∨ (n0 ≤ 1048576 ∧ s1.size ≤ 1048576 ∧ 1048576 < s2.size) ∨ (n0 ≤ 1048576 ∧ s1.size ≤ 1048576 ∧ s2.size ≤ 1048576 ∧ 1048576 < n0 + s1.size + s2.size)) :
    Calls Trym.prog 4 #[.slice a0 n0 c0, .string s1, .string s2] w fun e w' => e = .returned (.bool true) ∧ Below w.heap.size w w' := by
  rcases h with h | ⟨h, h'⟩ | ⟨h, h', h''⟩ | ⟨h, h', h'', h3⟩
  all_goals
    go_enter Trym.func4, Trym.ntmps4
    go_wp2_with fail
    refine (zz15 a0 n0 c0 s1 s2 _).mono ?_
    rintro e w ⟨b, rfl, rfl⟩
    cases b
    all_goals
      go_wp2
      go_ret
      exact ⟨rfl, Below.refl _ _⟩
end Go.Proofs.Qxb6601992aMods.Js
