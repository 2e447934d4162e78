/-
  The walk of 'FnEntryMatchesOwnerScan' (6) inside its domain.
-/
import Derived.Test.Qxb6601893aModsEnt
namespace Go.Proofs.Qxb6601893aMods.Sl
open Go.ChangeShapes Go.WideShapes Go.ChangeAt Go.RowKit
set_option linter.unusedVariables false

/-- What the scan has gathered when it stands at byte k: the bytes from lo up to the lesser of k and hi. -/
def Got (W wr : World) (f : Nat → Int) (lo hi : Nat) (v : Value) (k : Nat) : Prop :=
  Below W.heap.size W wr ∧ ∃ xs, wr.ownsRow W.heap.size 5 1 v (min k hi - lo) xs ∧ ∀ t, t < min k hi - lo → xs[t]? = some (.int .u8 (f (lo + t)))

theorem Got.start (W : World) (f : Nat → Int) (lo hi : Nat) : Got W W f lo hi (.slice none 0 0) 0 :=
  ⟨Below.refl _ _, [], by
    have e : min 0 hi - lo = 0 := by omega
    rw [e]
    exact World.ownsRow_nil _ _ _ _, fun t ht => by omega⟩

theorem Got.skip {W wr : World} {f : Nat → Int} {lo hi : Nat} {v : Value} {k : Nat} (h : Got W wr f lo hi v k) (hk : k < lo ∨ hi ≤ k) (hl : lo ≤ hi) : Got W wr f lo hi v (k + 1) := by
  have e : min (k + 1) hi - lo = min k hi - lo := by omega
  obtain ⟨hb, xs, ho, hx⟩ := h
  exact ⟨hb, xs, by rw [e]; exact ho, by rw [e]; exact hx⟩

theorem Got.take {W wr w1 : World} {f : Nat → Int} {lo hi : Nat} {v v' : Value} {k : Nat} {xs : List Value} {o : Obj} (hb : Below W.heap.size W wr) (ho : wr.ownsRow W.heap.size 5 1 v (k - lo) xs) (hx : ∀ t, t < k - lo → xs[t]? = some (.int .u8 (f (lo + t)))) (hk : lo ≤ k) (hh : k < hi)
    (ho' : w1.ownsRow W.heap.size 5 1 v' (k - lo + 1) (xs ++ [.int .u8 (f k)])) (hg : (wr.alloc o).grownBy w1 v.ownBlock) : Got W w1 f lo hi v' (k + 1) := by
  have e : min (k + 1) hi - lo = k - lo + 1 := by omega
  have hl := ho.1
  refine ⟨(hb.alloc hb.size _).grown hg (Nat.le_trans hb.size (by simp)) (fun j hj => ?_), _, by rw [e]; exact ho', fun t ht => ?_⟩
  · rcases ho.2 with ⟨rfl, _⟩ | ⟨g, cap, cur, rfl, hg', _⟩
    · cases hj
    · simp [Value.ownBlock] at hj; omega
  · by_cases h : t < k - lo
    · rw [List.getElem?_append_left (by omega)]; exact hx t h
    · have et : t = k - lo := by omega
      rw [List.getElem?_append_right (by omega), et, hl]
      simp
      congr 1; omega

/-- The owner of byte k. -/
theorem owner {n0 n1 : Nat} {E : Nat → Int} (hv : Valid n0 n1 E) {i : Nat} (hi : i < n1) (k j : Nat) (hj : j ≤ n1) (h1 : ∀ m, m < j → E m ≤ (k : Int)) (h2 : j = n1 ∨ (k : Int) < E j) : j = i ↔ cut E i ≤ k ∧ k < cut E (i + 1) := by
  have c0 := hv.cast (show i ≤ n1 by omega)
  have c1 := hv.cast (show i + 1 ≤ n1 by omega)
  have e1 : pre E (i + 1) = E i := rfl
  constructor
  · rintro rfl
    refine ⟨?_, ?_⟩
    · match j, h1, c0 with
      | 0, _, _ => exact Nat.zero_le _
      | m + 1, h1, c0 =>
        have := h1 m (by omega)
        have e : pre E (m + 1) = E m := rfl
        omega
    · rcases h2 with h | h <;> omega
  · rintro ⟨ha, hb⟩
    rcases Nat.lt_trichotomy j i with h | h | h
    · rcases h2 with h' | h'
      · omega
      · have := hv.le (show j + 1 ≤ i by omega) (by omega)
        have e : pre E (j + 1) = E j := rfl
        omega
    · exact h
    · have := h1 i h
      omega

/-- A row of the call's own, as a slice. -/
theorem own_row {w : World} {base : Nat} {v : Value} {n : Nat} {xs : List Value} {f : Nat → Int} (ho : w.ownsRow base 5 1 v n xs) (hx : ∀ t, t < n → xs[t]? = some (.int .u8 (f t))) : ∃ a c, v = .slice a n c ∧ Row .u8 w a n f := by
  rcases ho.2 with ⟨rfl, h⟩ | ⟨g, cap, cur, rfl, hg, hh, r⟩
  · subst h
    exact ⟨none, 0, rfl, .inl rfl⟩
  · refine ⟨_, cap, rfl, .inr ⟨g, 0, rfl, ?_, fun i hi => ?_⟩⟩
    · rw [Array.getElem?_eq_some_iff] at hh
      exact hh.1
    · rw [Nat.zero_add, ho.cellAt i (by omega)]
      exact hx i hi

theorem hide2 {p : Prop} (h : p) : Hid p := h

set_option maxHeartbeats 1000000 in
theorem scan_law (a0 : Option Addr) (n0 c0 : Nat) (a1 : Option Addr) (n1 c1 i : Nat) (f E : Nat → Int) (w : World) (g0 : n0 ≤ 1048576) (g1 : n1 ≤ 131072) (g2 : n0 + 8 * n1 ≤ 1048576) (hi : i < n1) (h00 : a0 = none → n0 = 0 ∧ c0 = 0) (h10 : a1 = none → n1 = 0 ∧ c1 = 0) (hr0 : Row .u8 w a0 n0 f) (hr1 : Row .i64 w a1 n1 E) :
    Calls Trym.prog 6 #[.slice a0 n0 c0, .slice a1 n1 c1, .int .i64 i] w fun e w' => e = .returned (.bool true) ∧ Below w.heap.size w w' := by
  go_enter Trym.func6, Trym.ntmps6
  go_wp2_with fail
  refine (zz11 a0 n0 c0 a1 n1 c1 i _).mono ?_
  rintro e w ⟨b, rfl, rfl⟩
  cases b
  · go_wp2
    go_ret
    exact ⟨rfl, Below.refl _ _⟩
  go_wp2_with fail
  refine (valid_any a0 n0 c0 a1 n1 c1 E _ (by omega) hr1).mono ?_
  rintro e w ⟨⟨r, rfl, hr⟩, rfl⟩
  cases r
  · go_wp2
    go_ret
    exact ⟨rfl, Below.refl _ _⟩
  have hv := hr rfl
  clear hr
  go_wp2_with fail
  refine (clone13_any a0 n0 c0 f _ g0 h00 hr0).mono ?_
  rintro e w1 ⟨a0', c0', rfl, hc0, h00', hr0', hb1⟩
  go_wp2_with fail
  refine (clone14_any a1 n1 c1 E _ (by omega) h10 (hr1.later hb1)).mono ?_
  rintro e w2 ⟨a1', c1', rfl, hc1, _, hr1', hb2⟩
  have hr2 := hr0'.later hb2
  clear hr0 hr1 h00 h10
  go_wp2_with fail
  refine (zzentry_any a0' n0 c0' a1' n1 c1' i f E _ (by omega) hc0 h00' hr2 hr1' hv hi).mono ?_
  rintro e w3 ⟨a', c', rfl, h00'', hc', hr3, hb3⟩
  have hbelow : Below w.heap.size w w3 := (hb1.trans (hb2.mono hb1.size)).trans (hb3.mono (Nat.le_trans hb1.size hb2.size))
  have hr1'' := hr1'.later hb3
  have hr2' := hr2.later hb3
  clear hr1' hr2 hr0' hb1 hb2 hb3 h00' hc1
  rcases hr1'' with h | ⟨b1, off1, ha1, hlt1, hcell1⟩
  · omega
  subst ha1
  have hlast := hcell1 (n1 - 1) (by omega)
  have eL : E (n1 - 1) = ((cut E n1 : Nat) : Int) := by
    rw [hv.cast (Nat.le_refl _)]
    obtain ⟨d, rfl⟩ : ∃ d, n1 = d + 1 := ⟨n1 - 1, by omega⟩
    rfl
  rw [eL] at hlast
  clear eL
  have hLn := hv.cut_most (Nat.le_refl n1)
  -- what the plain law says of the owner
  have hown : ∀ k j : Nat, j ≤ n1 → (∀ m, m < j → E m ≤ (k : Int)) → (j = n1 ∨ (k : Int) < E j) → (j = i ↔ cut E i ≤ k ∧ k < cut E (i + 1)) := fun k j => owner hv hi k j
  have hlh := hv.cut_le (show i ≤ i + 1 by omega) (by omega)
  have hhL := hv.cut_le (show i + 1 ≤ n1 by omega) (Nat.le_refl _)
  have hr3' := hr3
  rcases hr2' with h0 | ⟨b0, off0, ha0, hlt0, hcell0⟩
  · have hL0 : cut E n1 = 0 := by omega
    have hd0 : cut E (i + 1) - cut E i = 0 := by omega
    rw [hL0] at hlast
    rw [hd0] at hr3
    have HH : Hid (cut E (i + 1) - cut E i = 0) := hd0
    clear hd0 hown hL0 hcell1
    go_wp2_with fail
    refine wp_loop_rounds 1 ?_
    rw [rounds_succ]
    go_wp2_with fail
    rw [HH.out]
    refine (equal_any a' c' none 0 0 (fun t => f (cut E i + t)) (fun t => f (cut E i + t)) _ (by omega) (.inl rfl) (.inl rfl) (fun _ _ => rfl)).mono ?_
    rintro e w5 ⟨rfl, m, rfl⟩
    go_wp2
    go_ret
    exact ⟨rfl, below_drewN hbelow _⟩
  subst ha0
  obtain ⟨i0, hi0, hz0, hz1, hz2⟩ := info_parts info5
  go_wp2_with fail
  go_loopw [8, 10, 11] (fun v jv kv wr => ∃ k j : Nat, k ≤ cut E n1 ∧ j ≤ n1 ∧ kv = .int .i64 k ∧ jv = .int .i64 j ∧ Hid (∀ m, m < j → E m ≤ (k : Int)) ∧ Got w3 wr f (cut E i) (cut E (i + 1)) v k) (fun _ _ kv _ => cut E n1 - (intOf kv).toNat)
  case atStart => exact ⟨0, 0, Nat.zero_le _, Nat.zero_le _, rfl, rfl, fun m hm => absurd hm (by omega), Got.start _ _ _ _⟩
  case round =>
    obtain ⟨k, j, hk, hj, rfl, rfl, hE, hgot⟩ := hrel
    by_cases hlt : k < cut E n1
    · have hcE : ∀ m, m < n1 → wr.cell? ⟨b1, off1 + m, none⟩ = some (.int .i64 (E m)) := fun m hm => (hgot.1.cell (p := ⟨b1, off1 + m, none⟩) hlt1).trans (hcell1 m hm)
      have hcD := (hgot.1.cell (p := ⟨b0, off0 + k, none⟩) hlt0).trans (hcell0 k (by omega))
      go_wp2_with fail
      go_loop [10] (fun jv => ∃ j : Nat, j ≤ n1 ∧ jv = .int .i64 j ∧ Hid (∀ m, m < j → E m ≤ (k : Int))) (fun jv => n1 - (intOf jv).toNat)
      case atStart => exact ⟨j, hj, rfl, hE⟩
      case round =>
        clear hE hj
        obtain ⟨j2, hj2, rfl, hE2⟩ := hrel
        have HO := hide2 (hown k j2 hj2 hE2.out)
        by_cases hin : j2 < n1 ∧ E j2 ≤ (k : Int)
        · obtain ⟨hjn, hjE⟩ := hin
          have hcj := hcE j2 hjn
          clear hcE hown HO
          go_wp2
          go_round
          case rel => exact ⟨j2 + 1, by omega, by go_num, fun m hm => by
            rcases Nat.lt_or_eq_of_le (Nat.le_of_lt_succ hm) with h | rfl
            · exact hE2.out m h
            · exact hjE⟩
          case measure => simp [intOf]; omega
        · have hout : j2 = n1 ∨ (k : Int) < E j2 := by
            by_cases h : j2 < n1
            · exact .inr (by omega)
            · exact .inl (by omega)
          have HO2 := hide2 (HO.out hout)
          clear HO
          have hE3 : Hid (∀ m, m < j2 → E m ≤ ((k + 1 : Nat) : Int)) := fun m hm => by have := hE2.out m hm; omega
          clear hown
          by_cases hjn : j2 < n1
          · have hcj := hcE j2 hjn
            have hlt2 : (k : Int) < E j2 := by omega
            clear hcE hin hout
            by_cases hji : j2 = i
            · obtain ⟨hlo, hhi⟩ := HO2.out.1 hji
              have hji1 : (j2 : Int) ≤ (i : Int) := by omega
              have hji2 : (i : Int) ≤ (j2 : Int) := by omega
              clear HO2 hji
              obtain ⟨hbW, xs, ho, hx⟩ := hgot
              have em : min k (cut E (i + 1)) - cut E i = k - cut E i := by omega
              rw [em] at ho hx
              clear em
              have HX : Hid (∀ t, t < k - cut E i → xs[t]? = some (.int .u8 (f (cut E i + t)))) := hx
              clear hx
              go_wp2_with (at_builtin; refine wpList_append_own _ rfl _ _ 26 rfl w3.heap.size 5 i0 (.int .u8 0) 1 1 Trym.underlying26 hi0 hz0 hz1 hz2 rfl (by decide) _ _ _ rfl (ho.alloc _) ⟨wr.heap.size, 0, none⟩ 1 1 [.int .u8 (f k)] rfl rfl ?c1 ?c2 ?c3 ?c4 ?c5 ?_)
              case c2 => first | rfl | (intro u hu; simp at hu; subst hu; rfl)
              case c3 => unfold maxLen; omega
              case c4 => omega
              case c5 => have := hbW.size; simp; omega
              intro v' w4 ho' hg' _
              have R := Got.take hbW ho HX.out hlo hhi ho' hg'
              clear ho' hg' ho
              go_wp2
              go_roundw
              case rel => exact ⟨k + 1, j2, by omega, by omega, by go_num, rfl, hE3, R⟩
              case measure => simp [intOf]; omega
            · have hlohi : k < cut E i ∨ cut E (i + 1) ≤ k := by
                have := HO2.out
                omega
              have hne : ¬ ((j2 : Int) = (i : Int)) := by omega
              clear HO2
              go_wp2
              go_roundw
              case rel => exact ⟨k + 1, j2, by omega, by omega, by go_num, rfl, hE3, hgot.skip hlohi hlh⟩
              case measure => simp [intOf]; omega
          · have hne : ¬ ((j2 : Int) = (i : Int)) := by omega
            have hlohi : k < cut E i ∨ cut E (i + 1) ≤ k := by
              have := HO2.out
              omega
            clear HO2 hcE hin hout
            go_wp2
            go_roundw
            case rel => exact ⟨k + 1, j2, by omega, by omega, by go_num, rfl, hE3, hgot.skip hlohi hlh⟩
            case measure => simp [intOf]; omega
    · obtain ⟨hbW, xs, ho, hx⟩ := hgot
      have em : min k (cut E (i + 1)) - cut E i = cut E (i + 1) - cut E i := by omega
      rw [em] at ho hx
      obtain ⟨a2, c2, hv2, hr4⟩ := own_row ho hx
      clear em ho hx
      have hr5 := hr3.later hbW
      clear hcell0 hcell1 hown
      go_wp2_with fail
      rw [hv2]
      refine (equal_any a' c' a2 c2 (cut E (i + 1) - cut E i) (fun t => f (cut E i + t)) (fun t => f (cut E i + t)) _ (by omega) hr5 hr4 (fun _ _ => rfl)).mono ?_
      rintro e w5 ⟨rfl, m, rfl⟩
      go_wp2
      go_ret
      exact ⟨rfl, below_drewN (hbelow.trans (hbW.mono hbelow.size)) _⟩
/-- Outside the domain the law says true by its own text. -/
theorem scan_out (a0 : Option Addr) (n0 c0 : Nat) (a1 : Option Addr) (n1 c1 : Nat) (i : Int) (w : World) (m0 : n0 ≤ 9223372036854775807) (m1 : n1 ≤ 9223372036854775807)
    (h : 1048576 < n0 ∨ (n0 ≤ 1048576 ∧ 131072 < n1) ∨ (n0 ≤ 1048576 ∧ n1 ≤ 131072 ∧ 1048576 < n0 + 8 * n1) ∨ (n0 ≤ 1048576 ∧ n1 ≤ 131072 ∧ n0 + 8 * n1 ≤ 1048576 ∧ (i < 0 ∨ (0 ≤ i ∧ (n1 : Int) ≤ i)))) :
    Calls Trym.prog 6 #[.slice a0 n0 c0, .slice a1 n1 c1, .int .i64 i] w fun e w' => e = .returned (.bool true) ∧ Below w.heap.size w w' := by
  rcases h with h | ⟨h, h'⟩ | ⟨h, h', h''⟩ | ⟨h, h', h'', h3 | ⟨h3, h4⟩⟩
  all_goals
    go_enter Trym.func6, Trym.ntmps6
    go_wp2_with fail
    refine (zz11 a0 n0 c0 a1 n1 c1 i _).mono ?_
    rintro e w ⟨b, rfl, rfl⟩
    cases b
    all_goals
      go_wp2
      go_ret
      exact ⟨rfl, Below.refl _ _⟩
end Go.Proofs.Qxb6601893aMods.Sl
