/-
  The contract of 'appendJSONString' (23) and 'ZZappendJSONString' (11).
-/
import Derived.Test.Qxb6601992aModsRows
import Derived.WalkKit
import Derived.WalkSpells
import Derived.ProofKit
import Derived.Outline
import Derived.RegionTactic
import Derived.ChangeAlike
import Derived.Deep.QuietTactic
import Derived.BigQuiet
import Derived.RowKit3
import Derived.WalkSmall
import Derived.Deep.OwnRows
import Derived.Lib.SliceRun
import Derived.Lib.AppendStr
import Derived.Deep.RegionLaw
import Derived.Deep.AppendLies
namespace Go.Proofs.Qxb6601992aMods.Js
open Go.ChangeShapes Go.WideShapes Go.ChangeAt Go.RowKit
set_option linter.unusedVariables false

/-! ### The plain function: the literal -/
def hexd (n : Nat) : Int := if n < 10 then 48 + n else 87 + n
def esc (c : UInt8) : List Int :=
  if c.toNat = 34 ∨ c.toNat = 92 then [92, c.toNat] else if c.toNat < 32 then [92, 117, 48, 48, hexd (c.toNat / 16), hexd (c.toNat % 16)] else [(c.toNat : Int)]
def enc (l : List UInt8) : List Int := l.flatMap esc
def lit (l : List UInt8) : List Int := 34 :: (enc l ++ [34])
theorem enc_append (a b : List UInt8) : enc (a ++ b) = enc a ++ enc b := by simp [enc]
theorem enc_one (c : UInt8) : enc [c] = esc c := by simp [enc]
theorem take_snoc (s : ByteArray) (k : Nat) (h : k < s.size) : s.data.toList.take (k + 1) = s.data.toList.take k ++ [s[k]] := by
  rw [List.take_succ_eq_append_getElem (by simpa using h)]; rfl
theorem esc_len (c : UInt8) : 1 ≤ (esc c).length ∧ (esc c).length ≤ 6 := by
  unfold esc; split
  · simp
  · split <;> simp
theorem enc_len (l : List UInt8) : l.length ≤ (enc l).length ∧ (enc l).length ≤ 6 * l.length := by
  induction l with
  | nil => simp [enc]
  | cons c l ih =>
    have h := esc_len c
    have e : (enc (c :: l)).length = (esc c).length + (enc l).length := by simp [enc]
    rw [e, List.length_cons]; omega

/-- What stands in the buffer when the bytes l have been written behind F. -/
def pref (F : List Int) (l : List UInt8) : List Int := F ++ 34 :: enc l
theorem pref_len {F : List Int} {n : Nat} (h : F.length = n) (l : List UInt8) : n + 1 + l.length ≤ (pref F l).length ∧ (pref F l).length ≤ n + 1 + 6 * l.length := by
  have := enc_len l
  simp only [pref, List.length_append, List.length_cons, h]
  omega
theorem pref_next (F : List Int) (s : ByteArray) (k : Nat) (h : k < s.size) {e : List Int} (he : esc s[k] = e) : pref F (s.data.toList.take (k + 1)) = pref F (s.data.toList.take k) ++ e := by
  unfold pref; rw [take_snoc s k h, enc_append, enc_one, he]; simp
theorem pref_all (F : List Int) (s : ByteArray) (k : Nat) (h : ¬ k < s.size) : pref F (s.data.toList.take k) ++ [34] = F ++ lit s.data.toList := by
  unfold pref lit; rw [List.take_of_length_le (by simp; omega)]; simp

/-! ### A buffer of the call's own -/
theorem info5 : (Trym.prog.info? 5).map (fun i => (i.zero, i.size, i.bytes)) = some (some (.int .u8 0), 1, 1) := by kernel_rfl

/-- v is a slice of the call's own (its block is none of W's); its bytes are L; nothing of W has turned. -/
def Buf (W w : World) (v : Value) (L : List Int) : Prop := Below W.heap.size W w ∧ w.ownsRow W.heap.size 5 1 v L.length (L.map (Value.int .u8))

theorem Buf.alloc {W w : World} {v : Value} {L : List Int} (h : Buf W w v L) (o : Obj) : Buf W (w.alloc o) v L := ⟨h.1.alloc h.1.size _, h.2.alloc _⟩
theorem Buf.drew {W w : World} {v : Value} {L : List Int} (h : Buf W w v L) : Buf W w.drew v L := ⟨h.1.drew, h.2.drew⟩
theorem Buf.grown {W w w' : World} {v v' : Value} {L M : List Int} {n : Nat} (h : Buf W w v L) (ho : w'.ownsRow W.heap.size 5 1 v' (L.length + n) (L.map (Value.int .u8) ++ M.map (Value.int .u8))) (hn : M.length = n) (hg : w.grownBy w' v.ownBlock) : Buf W w' v' (L ++ M) := by
  refine ⟨h.1.grown hg h.1.size (fun j hj => ?_), by rw [List.length_append, List.map_append, hn]; exact ho⟩
  rcases h.2.2 with ⟨rfl, _⟩ | ⟨g, cap, cur, rfl, hg', _⟩
  · cases hj
  · simp [Value.ownBlock] at hj; omega

theorem ints_one (M : List Int) : ∀ u ∈ M.map (Value.int .u8), u.oneCell' = true := by
  intro u hu
  simp only [List.mem_map] at hu
  obtain ⟨_, _, rfl⟩ := hu
  rfl

/-- The law of append, as the buffer has it. -/
theorem buf_append (W w : World) {ops : Array Oper} {rest : List Oper} {o : Oper} {a : Act} {Q : Exit → Act → World → Prop} (hgd : o.guard = none) (s x : Operand)
    (ho : o.op = .call { callee := .builtin .append, args := #[s, x], argTypes := #[22, 22] })
    (v : Value) (L : List Int) (hs : a.eval s = v) (hb : Buf W w v L) (ad : Addr) (M : List Int) (m c : Nat) (hx : a.eval x = .slice (some ad) m c) (hm : M.length = m) (hc : ∀ j u, (M.map (Value.int .u8))[j]? = some u → w.cell? (ad.add j) = some u)
    (hlen : L.length + m ≤ 1099511627776) (h : ∀ v' w', Buf W w' v' (L ++ M) → wpList Trym.prog ops Q rest (a.put o.dst v') w') : wpList Trym.prog ops Q (o :: rest) a w := by
  obtain ⟨i0, hi, hz0, hz1, hz2⟩ := info_parts info5
  refine wpList_append_own _ hgd s x 22 ho W.heap.size 5 i0 (.int .u8 0) 1 1 Trym.underlying22 hi hz0 hz1 hz2 rfl (by decide) _ _ _ hs hb.2 ad m c (M.map (Value.int .u8)) hx (by simp [hm]) hc (ints_one M) (by unfold maxLen; omega) (by omega) hb.1.size ?_
  intro v' w' ho' hg _
  exact h v' w' (hb.grown ho' hm hg)

theorem strCells_two : Lib.strCells (ByteArray.mk #[92, 117, 48, 48]) = ([92, 117, 48, 48] : List Int).map (Value.int .u8) := by rfl

/-- .. of a constant string. -/
theorem buf_text (W w : World) {ops : Array Oper} {rest : List Oper} {o : Oper} {a : Act} {Q : Exit → Act → World → Prop} (hgd : o.guard = none) (s x : Operand)
    (ho : o.op = .call { callee := .builtin .append, args := #[s, x], argTypes := #[22, 9] })
    (v : Value) (L : List Int) (hs : a.eval s = v) (hb : Buf W w v L) (hx : a.eval x = .string (ByteArray.mk #[92, 117, 48, 48]))
    (hlen : L.length + 4 ≤ 1099511627776) (h : ∀ v' w', Buf W w' v' (L ++ [92, 117, 48, 48]) → wpList Trym.prog ops Q rest (a.put o.dst v') w') : wpList Trym.prog ops Q (o :: rest) a w := by
  obtain ⟨i0, hi, hz0, hz1, hz2⟩ := info_parts info5
  refine Lib.wpList_append_own_string _ hgd s x 22 9 ho W.heap.size 5 i0 Trym.underlying22 Trym.underlying9 hi hz0 hz1 hz2 _ _ _ hs hb.2 _ hx (by unfold maxLen; show _ + 4 ≤ _; omega) (by show _ + 4 ≤ _; omega) hb.1.size ?_
  intro v' w' ho' hg _
  rw [strCells_two] at ho'
  exact h v' w' (hb.grown ho' rfl hg)

/-- .. as one step of a region that draws its order. -/
theorem buf_step (W w : World) {ops : Array Oper} {o : Oper} {a : Act} {K : Act → World → Prop} {Q : Exit → Act → World → Prop} {B : Prop} (hgd : o.guard = none) (s x : Operand)
    (ho : o.op = .call { callee := .builtin .append, args := #[s, x], argTypes := #[22, 22] })
    (v : Value) (L : List Int) (hs : a.eval s = v) (hb : Buf W w v L) (ad : Addr) (M : List Int) (m c : Nat) (hx : a.eval x = .slice (some ad) m c) (hm : M.length = m) (hm0 : 0 < m) (hc : ∀ j u, (M.map (Value.int .u8))[j]? = some u → w.cell? (ad.add j) = some u)
    (hlen : L.length + m ≤ 1099511627776) (h : ∀ v' w', Buf W w' v' (L ++ M) → K (a.put o.dst v') w') : if Region.wanted o (yielded ops a.tmps) = true then Oper.wp Trym.prog o a w K Q else B := by
  obtain ⟨i0, hi, hz0, hz1, hz2⟩ := info_parts info5
  refine step_append_lies _ hgd s x 22 ho W.heap.size 5 i0 (.int .u8 0) 1 1 Trym.underlying22 hi hz0 hz1 hz2 rfl (by decide) _ _ _ hs hb.2 ad m c (M.map (Value.int .u8)) hx (by simp [hm]) hc (ints_one M) hm0 (by unfold maxLen; omega) (by omega) hb.1.size _ rfl ?_
  intro g cap w' ho' hg _ _
  exact h _ w' (hb.grown ho' hm hg)

theorem and15 : ∀ x : Nat, x < 32 → bits BinOp.and IntKind.u8 (x : Int) 15 = (x : Int) % 16 := by
  intro x hx
  exact (by decide : ∀ y : Fin 32, bits BinOp.and IntKind.u8 ((y.val : Nat) : Int) 15 = ((y.val : Nat) : Int) % 16) ⟨x, hx⟩
def HEX : ByteArray := { data := #[48, 49, 50, 51, 52, 53, 54, 55, 56, 57, 97, 98, 99, 100, 101, 102] }
theorem hex_at : ∀ n : Nat, (h : n < HEX.size) → ((HEX[n]'h).toNat : Int) = hexd n := by
  intro n hn
  exact (by decide : ∀ y : Fin 16, ((HEX[y.val]'y.isLt).toNat : Int) = hexd y.val) ⟨n, hn⟩

theorem hex_lit (m n : Nat) (e : n = m) : ∀ h : n < ByteArray.size { data := #[48, 49, 50, 51, 52, 53, 54, 55, 56, 57, 97, 98, 99, 100, 101, 102] }, ((({ data := #[48, 49, 50, 51, 52, 53, 54, 55, 56, 57, 97, 98, 99, 100, 101, 102] } : ByteArray)[n]'h).toNat : Int) = hexd m := by
  subst e; exact fun h => hex_at n h

theorem addr_add_block (b : Addr) (j : Nat) : (b.add j).block = b.block := by
  unfold Addr.add; split <;> rfl

/-- Behind the first append: a buffer. -/
theorem Buf.first {w w' : World} {o : Obj} {v' : Value} {n : Nat} {F : List Int} (hF : F.length = n) (ho : w'.ownsRow (w.heap.size + 1) 5 1 v' (n + 1) (F.map (Value.int .u8) ++ [.int .u8 34])) (hg : (w.alloc o).grownBy w' none) : Buf w w' v' (F ++ [34]) := by
  refine ⟨((Below.refl _ _).alloc (Nat.le_refl _) _).grown hg (by simp) (fun j hj => by cases hj), ?_, ?_⟩
  · simp
  · rw [List.length_append, hF, List.map_append]
    rcases ho.2 with h | ⟨g, cap, cur, hv, hb, r⟩
    · exact .inl h
    · exact .inr ⟨g, cap, cur, hv, by omega, r⟩

set_option maxHeartbeats 1000000 in
theorem lit_any (a : Option Addr) (n c : Nat) (F : List Int) (s : ByteArray) (w : World) (hF : F.length = n) (hcap : c ≤ n) (h00 : a = none → n = 0 ∧ c = 0) (hcells : ∀ b, a = some b → ∀ j u, (F.map (Value.int .u8))[j]? = some u → w.cell? (b.add j) = some u) (hb : ∀ b, a = some b → n ≠ 0 → b.block < w.heap.size) (hlen : n + 6 * s.size + 2 ≤ 1099511627776) :
    Calls Trym.prog 23 #[.slice a n c, .string s] w fun e w' => ∃ v', e = .returned v' ∧ Buf w w' v' (F ++ lit s.data.toList) := by
  obtain ⟨i0, hi, hz0, hz1, hz2⟩ := info_parts info5
  have hcells' : ∀ o b, a = some b → ∀ j u, (F.map (Value.int .u8))[j]? = some u → (w.alloc o).cell? (b.add j) = some u := fun o b hab j u hj => by
    have hjl := (List.getElem?_eq_some_iff.1 hj).1
    simp at hjl
    have hbb := hb b hab (by omega)
    rw [World.cell?_alloc_lt]
    · exact hcells b hab j u hj
    · rw [addr_add_block]; exact hbb
  have HC : Hid (∀ o b, a = some b → ∀ j u, (F.map (Value.int .u8))[j]? = some u → (w.alloc o).cell? (b.add j) = some u) := hcells'
  have H00 : Hid (a = none → n = 0 ∧ c = 0) := h00
  have HF : Hid (F.length = n) := hF
  clear hcells hcells' h00 hb hF
  go_enter Trym.func23, Trym.ntmps23
  go_wp2_with (at_builtin; refine wpList_append_grows _ rfl _ _ 22 rfl 5 i0 (.int .u8 0) 1 1 Trym.underlying22 hi hz0 hz1 hz2 rfl (by decide) a n c (F.map (Value.int .u8)) rfl H00.out ?q1 (HC.out _) ⟨w.heap.size, 0, none⟩ 1 1 [.int .u8 34] rfl rfl ?q2 ?q3 ?q4 ?q5 ?q6 ?_)
  case q1 => simp [HF.out]
  case q2 => exact cell_one_new _ _ _
  case q3 => exact ints_one [34]
  case q4 => omega
  case q5 => unfold maxLen; omega
  case q6 => omega
  intro v1 w1 ho1 hg1
  have hb1 := Buf.first HF.out ho1 hg1
  clear ho1 hg1 hi hz0 hz1 hz2 HC H00
  go_wp2_with fail
  go_loopw [0, 5] (fun v i wr => ∃ k : Nat, k ≤ s.size ∧ i = .int .i64 k ∧ Buf w wr v (pref F (s.data.toList.take k))) (fun _ i _ => s.size - (intOf i).toNat)
  case atStart => exact ⟨0, Nat.zero_le _, rfl, by simpa [enc, pref] using hb1⟩
  case round =>
    obtain ⟨k, hk, rfl, hbuf⟩ := hrel
    clear hb1
    have hP := (pref_len HF.out (s.data.toList.take k)).2
    have hT : (s.data.toList.take k).length ≤ k := List.length_take_le _ _
    by_cases hlt : k < s.size
    · by_cases h34 : s[k].toNat = 34 ∨ s[k].toNat = 92
      · have HE : Hid (esc s[k] = [92, (s[k].toNat : Int)]) := by show _ = _; unfold esc; rw [if_pos h34]
        rcases h34 with h | h
        · have e1 : ((s[k].toNat : Int) == 34) = true := by simp; omega
          have e2 : ((s[k].toNat : Int) == 92) = false := by simp; omega
          clear h
          go_wp2_with (at_builtin; refine buf_append w _ rfl (.tmp 30) (.tmp 32) rfl _ _ rfl (hbuf.alloc _) ⟨wr.heap.size, 0, none⟩ [92, (s[k].toNat : Int)] 2 2 rfl rfl ?q1 ?q2 ?_)
          case q1 => exact World.news_of_block (heap_alloc_new _ _)
          case q2 => omega
          intro v2 w2 hb2
          clear hbuf
          go_wp2
          go_roundw
          case rel => exact ⟨k + 1, by omega, by go_num, by rw [pref_next F s k hlt HE.out]; exact hb2⟩
          case measure => simp [intOf]; omega
        · have e1 : ((s[k].toNat : Int) == 34) = false := by simp; omega
          have e2 : ((s[k].toNat : Int) == 92) = true := by simp; omega
          clear h
          go_wp2_with (at_builtin; refine buf_append w _ rfl (.tmp 30) (.tmp 32) rfl _ _ rfl (hbuf.alloc _) ⟨wr.heap.size, 0, none⟩ [92, (s[k].toNat : Int)] 2 2 rfl rfl ?q1 ?q2 ?_)
          case q1 => exact World.news_of_block (heap_alloc_new _ _)
          case q2 => omega
          intro v2 w2 hb2
          clear hbuf
          go_wp2
          go_roundw
          case rel => exact ⟨k + 1, by omega, by go_num, by rw [pref_next F s k hlt HE.out]; exact hb2⟩
          case measure => simp [intOf]; omega
      have e1 : ((s[k].toNat : Int) == 34) = false := by simp; omega
      have e2 : ((s[k].toNat : Int) == 92) = false := by simp; omega
      by_cases h32 : s[k].toNat < 32
      · have HE : Hid (esc s[k] = [92, 117, 48, 48, hexd (s[k].toNat / 16), hexd (s[k].toNat % 16)]) := by show _ = _; unfold esc; rw [if_neg h34, if_pos h32]
        have h32' : (s[k].toNat : Int) < 32 := by omega
        clear h34
        go_wp2_with (at_builtin; refine buf_text w _ rfl (.tmp 37) _ rfl _ _ rfl hbuf rfl ?q1 ?_)
        case q1 => omega
        intro v2 w2 hb2
        clear hbuf
        have hand := and15 s[k].toNat h32
        have d0 : (0 : Int) ≤ (s[k].toNat : Int) / 16 := by omega
        have d1 : (s[k].toNat : Int) / 16 < 16 := by omega
        have d2 : (0 : Int) ≤ (s[k].toNat : Int) % 16 := by omega
        have d3 : (s[k].toNat : Int) % 16 < 16 := by omega
        have hX := hex_lit (s[k].toNat / 16) ((s[k].toNat : Int) / 16).toNat (by omega)
        have hY := hex_lit (s[k].toNat % 16) ((s[k].toNat : Int) % 16).toNat (by omega)
        have hl4 : (pref F (s.data.toList.take k) ++ [92, 117, 48, 48]).length = (pref F (s.data.toList.take k)).length + 4 := by simp
        have HL4 : Hid ((pref F (s.data.toList.take k) ++ [92, 117, 48, 48]).length + 2 ≤ 1099511627776) := by show _ ≤ _; omega
        clear hl4
        go_wp2_with fail
        go_region_law (refine buf_step w _ rfl (.tmp 39) (.tmp 46) rfl v2 _ rfl ((hb2.alloc _).drew) ⟨w2.heap.size, 0, none⟩ [hexd (s[k].toNat / 16), hexd (s[k].toNat % 16)] 2 2 rfl rfl (by omega) (World.news_of_block (heap_alloc_new _ _)) HL4.out ?_; intro v3 w3 hb3)
        all_goals
          have R : Buf w w3 v3 (pref F (s.data.toList.take (k + 1))) := by
            rw [pref_next F s k hlt HE.out]
            simpa using hb3
          clear hb3 hb2 hX hY hand
          go_wp2
          go_roundw
          case rel => exact ⟨k + 1, by omega, by go_num, R⟩
          case measure => simp [intOf]; omega
      · have HE : Hid (esc s[k] = [(s[k].toNat : Int)]) := by show _ = _; unfold esc; rw [if_neg h34, if_neg h32]
        have h32' : (32 : Int) ≤ (s[k].toNat : Int) := by omega
        clear h34
        go_wp2_with (at_builtin; refine buf_append w _ rfl (.tmp 19) (.tmp 21) rfl _ _ rfl (hbuf.alloc _) ⟨wr.heap.size, 0, none⟩ [(s[k].toNat : Int)] 1 1 rfl rfl ?q1 ?q2 ?_)
        case q1 => exact World.news_of_block (heap_alloc_new _ _)
        case q2 => omega
        intro v2 w2 hb2
        clear hbuf
        go_wp2
        go_roundw
        case rel => exact ⟨k + 1, by omega, by go_num, by rw [pref_next F s k hlt HE.out]; exact hb2⟩
        case measure => simp [intOf]; omega
    · go_wp2_with (at_builtin; refine buf_append w _ rfl (.tmp 48) (.tmp 49) rfl _ _ rfl (hbuf.alloc _) ⟨wr.heap.size, 0, none⟩ [34] 1 1 rfl rfl ?q1 ?q2 ?_)
      case q1 => exact World.news_of_block (heap_alloc_new _ _)
      case q2 => omega
      intro v2 w2 hb2
      clear hbuf
      rw [pref_all F s k hlt] at hb2
      go_wp2
      go_ret
      exact ⟨_, rfl, hb2⟩
end Go.Proofs.Qxb6601992aMods.Js
