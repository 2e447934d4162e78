/-
  The walk of 'FnEntriesConcatenateToJSON' (7).
-/
import Derived.Test.Qxb6601893aModsScan
import Derived.Laws.AppendOwnNone
namespace Go.Proofs.Qxb6601893aMods.Sl
open Go.ChangeShapes Go.WideShapes Go.ChangeAt Go.RowKit
set_option linter.unusedVariables false

/-- What has been laid one after another: the first n bytes. -/
def Cat (W wr : World) (f : Nat → Int) (v : Value) (n : Nat) : Prop :=
  Below W.heap.size W wr ∧ ∃ xs, wr.ownsRow W.heap.size 5 1 v n xs ∧ ∀ t, t < n → xs[t]? = some (.int .u8 (f t))

theorem Cat.start (W : World) (f : Nat → Int) : Cat W W f (.slice none 0 0) 0 :=
  ⟨Below.refl _ _, [], World.ownsRow_nil _ _ _ _, fun t ht => by omega⟩

theorem own_later {w w' : World} {base : Nat} {e : TypeId} {size : Nat} {v : Value} {n : Nat} {xs : List Value} (h : w.ownsRow base e size v n xs) (hb : Below w.heap.size w w') : w'.ownsRow base e size v n xs := by
  refine ⟨h.1, ?_⟩
  rcases h.2 with h2 | ⟨g, cap, cur, hv, hg, hh, r⟩
  · exact .inl h2
  · refine .inr ⟨g, cap, cur, hv, hg, ?_, r⟩
    have hlt : g < w.heap.size := by
      rw [Array.getElem?_eq_some_iff] at hh
      exact hh.1
    rw [hb.block g hlt]
    exact hh

/-- The bytes of an entry, as cells. -/
def news (f : Nat → Int) (lo d : Nat) : List Value := (List.range d).map fun j => .int .u8 (f (lo + j))
theorem news_length (f : Nat → Int) (lo d : Nat) : (news f lo d).length = d := by simp [news]
theorem news_at (f : Nat → Int) (lo d j : Nat) (h : j < d) : (news f lo d)[j]? = some (.int .u8 (f (lo + j))) := by simp [news, h]
theorem news_cells {w : World} {ad : Addr} {f : Nat → Int} {lo d : Nat} (h : Row .u8 w (some ad) d (fun j => f (lo + j))) : ∀ j u, (news f lo d)[j]? = some u → w.cell? (ad.add j) = some u := by
  intro j u hj
  have hjd : j < d := by
    have := (List.getElem?_eq_some_iff.1 hj).1
    rwa [news_length] at this
  rw [news_at f lo d j hjd] at hj
  rcases h with h | ⟨b, off, ha, _, hc⟩
  · omega
  · obtain rfl : ad = ⟨b, off, none⟩ := by simpa using ha
    rw [add_plain, hc j hjd]
    exact hj
theorem news_one (f : Nat → Int) (lo d : Nat) : ∀ u ∈ news f lo d, u.oneCell' = true := by
  intro u hu
  simp only [news, List.mem_map] at hu
  obtain ⟨_, _, rfl⟩ := hu
  rfl

theorem Cat.next {W wr w4 w5 : World} {f : Nat → Int} {v v' : Value} {n n' d : Nat} {xs : List Value} (he : n + d = n') (hb : Below W.heap.size W wr) (hb4 : Below wr.heap.size wr w4) (ho : wr.ownsRow W.heap.size 5 1 v n xs) (hx : ∀ t, t < n → xs[t]? = some (.int .u8 (f t)))
    (ho' : w5.ownsRow W.heap.size 5 1 v' n' (xs ++ news f n d)) (hg : w4.grownBy w5 v.ownBlock) : Cat W w5 f v' n' := by
  have hl := ho.1
  refine ⟨(hb.trans (hb4.mono hb.size)).grown hg (Nat.le_trans hb.size hb4.size) (fun j hj => ?_), _, ho', fun t ht => ?_⟩
  · rcases ho.2 with ⟨rfl, _⟩ | ⟨g, cap, cur, rfl, hg', _⟩
    · cases hj
    · simp [Value.ownBlock] at hj; omega
  · by_cases h : t < n
    · rw [List.getElem?_append_left (by omega)]; exact hx t h
    · rw [List.getElem?_append_right (by omega), news_at _ _ _ _ (by omega)]
      congr 3; omega

theorem Cat.same {W wr w4 : World} {f : Nat → Int} {v : Value} {n : Nat} (h : Cat W wr f v n) (hb4 : Below wr.heap.size wr w4) : Cat W w4 f v n := by
  obtain ⟨hb, xs, ho, hx⟩ := h
  exact ⟨hb.trans (hb4.mono hb.size), xs, own_later ho hb4, hx⟩

set_option maxHeartbeats 1000000 in
theorem cat_law (a0 : Option Addr) (n0 c0 : Nat) (a1 : Option Addr) (n1 c1 : Nat) (f E : Nat → Int) (w : World) (g0 : n0 ≤ 1048576) (g1 : n1 ≤ 131072) (g2 : n0 + 8 * n1 ≤ 1048576) (hi : 1 ≤ n1) (h00 : a0 = none → n0 = 0 ∧ c0 = 0) (h10 : a1 = none → n1 = 0 ∧ c1 = 0) (hr0 : Row .u8 w a0 n0 f) (hr1 : Row .i64 w a1 n1 E) :
    Calls Trym.prog 7 #[.slice a0 n0 c0, .slice a1 n1 c1] w fun e w' => e = .returned (.bool true) ∧ Below w.heap.size w w' := by
  have hz1 : ((n1 : Int) == 0) = false := by simp; omega
  go_enter Trym.func7, Trym.ntmps7
  go_wp2_with fail
  refine (zz17 a0 n0 c0 a1 n1 c1 _).mono ?_
  rintro e w ⟨b, rfl, rfl⟩
  cases b
  · go_wp2
    go_ret
    exact ⟨rfl, Below.refl _ _⟩
  go_wp2_with fail
  refine (valid_any a0 n0 c0 a1 n1 c1 E _ (by omega) hr1).mono ?_
  rintro e w ⟨⟨r, rfl, hr⟩, rfl⟩
  cases r
  · go_wp2
    go_ret
    exact ⟨rfl, Below.refl _ _⟩
  have hv := hr rfl
  clear hr
  go_wp2_with fail
  refine (clone13_any a0 n0 c0 f _ g0 h00 hr0).mono ?_
  rintro e w1 ⟨a0', c0', rfl, hc0, h00', hr0', hb1⟩
  go_wp2_with fail
  refine (clone14_any a1 n1 c1 E _ (by omega) h10 (hr1.later hb1)).mono ?_
  rintro e w2 ⟨a1', c1', rfl, hc1, _, hr1', hb2⟩
  have hr2 := hr0'.later hb2
  have hbelow : Below w.heap.size w w2 := hb1.trans (hb2.mono hb1.size)
  clear hr0 hr1 h00 h10 hr0' hb1 hb2
  rcases (show Row .i64 w2 a1' n1 E from hr1') with h | ⟨b1, off1, ha1, hlt1, hcell1⟩
  · omega
  subst ha1
  have hlast := hcell1 (n1 - 1) (by omega)
  have eL : E (n1 - 1) = ((cut E n1 : Nat) : Int) := by
    rw [hv.cast (Nat.le_refl _)]
    obtain ⟨d, rfl⟩ : ∃ d, n1 = d + 1 := ⟨n1 - 1, by omega⟩
    rfl
  rw [eL] at hlast
  clear eL hcell1
  have hLn := hv.cut_most (Nat.le_refl n1)
  obtain ⟨i0, hi0, hz0, hz1, hz2⟩ := info_parts info5
  go_wp2_with fail
  go_loopw [5, 6] (fun v iv wr => ∃ m : Nat, m ≤ n1 ∧ iv = .int .i64 m ∧ Cat w2 wr f v (cut E m)) (fun _ iv _ => n1 - (intOf iv).toNat)
  case atStart => exact ⟨0, Nat.zero_le _, rfl, Cat.start _ _⟩
  case round =>
    obtain ⟨m, hm, rfl, hcat⟩ := hrel
    by_cases hlt : m < n1
    · have hle := hv.cut_le (show m ≤ m + 1 by omega) (by omega)
      have hmost := hv.cut_most (show m + 1 ≤ n1 by omega)
      have HE : Hid (cut E m + (cut E (m + 1) - cut E m) = cut E (m + 1)) := by show _ + _ = _; omega
      go_wp2_with fail
      refine (zzentry_any a0' n0 c0' _ n1 c1' m f E _ (by omega) hc0 h00' (hr2.later hcat.1) (hr1'.later hcat.1) hv hlt).mono ?_
      rintro e w4 ⟨a', c', rfl, h0', hc', hr3, hb4⟩
      cases a' with
      | none =>
        obtain ⟨hd, rfl⟩ := h0' rfl
        rw [hd]
        have R := hcat.same hb4
        have R' := R
        obtain ⟨_, xs, ho, _⟩ := R'
        go_wp2_with (at_builtin; refine wpList_append_own_none rfl _ _ 26 rfl w2.heap.size 5 i0 1 Trym.underlying26 hi0 _ _ _ rfl ho rfl ?_)
        go_roundw
        case rel => exact ⟨m + 1, by omega, by go_num, by rw [show cut E (m + 1) = cut E m by have := HE.out; omega]; exact R⟩
        case measure => simp [intOf]; omega
      | some ad =>
        obtain ⟨hbW, xs, ho, hx⟩ := hcat
        have HX : Hid (∀ t, t < cut E m → xs[t]? = some (.int .u8 (f t))) := hx
        clear hx
        go_wp2_with (at_builtin; refine wpList_append_own _ rfl _ _ 26 rfl w2.heap.size 5 i0 (.int .u8 0) 1 1 Trym.underlying26 hi0 hz0 hz1 hz2 rfl (by decide) _ _ _ rfl (own_later ho hb4) ad (cut E (m + 1) - cut E m) c' (news f (cut E m) (cut E (m + 1) - cut E m)) rfl ?q1 ?q2 ?q3 ?q4 ?q5 ?q6 ?_)
        case q1 => rw [news_length, Nat.mul_one]
        case q2 => exact news_cells hr3
        case q3 => exact news_one _ _ _
        case q4 => unfold maxLen; omega
        case q5 => omega
        case q6 => exact Nat.le_trans hbW.size hb4.size
        intro v' w5 ho' hg' _
        have R := Cat.next HE.out hbW hb4 ho HX.out ho' hg'
        clear ho' hg' ho
        go_wp2
        go_roundw
        case rel => exact ⟨m + 1, by omega, by go_num, R⟩
        case measure => simp [intOf]; omega
    · obtain rfl : m = n1 := by omega
      obtain ⟨hbW, xs, ho, hx⟩ := hcat
      obtain ⟨a2, c2, hv2, hr4⟩ := own_row ho hx
      clear ho hx
      have hr5 := hr2.later hbW
      have hlast' := (hbW.cell (p := ⟨b1, off1 + (m - 1), none⟩) hlt1).trans hlast
      go_wp2_with fail
      rw [hv2]
      refine (equal_any a2 c2 a0' c0' (cut E m) f f _ (by omega) hr4 (hr5.front hLn) (fun _ _ => rfl)).mono ?_
      rintro e w5 ⟨rfl, q, rfl⟩
      go_wp2
      go_ret
      exact ⟨rfl, below_drewN (hbelow.trans (hbW.mono hbelow.size)) _⟩

/-- Outside the domain the law says true by its own text. -/
theorem cat_out (a0 : Option Addr) (n0 c0 : Nat) (a1 : Option Addr) (n1 c1 : Nat) (w : World) (m0 : n0 ≤ 9223372036854775807) (m1 : n1 ≤ 9223372036854775807)
    (h : 1048576 < n0 ∨ (n0 ≤ 1048576 ∧ 131072 < n1) ∨ (n0 ≤ 1048576 ∧ n1 ≤ 131072 ∧ 1048576 < n0 + 8 * n1)) :
    Calls Trym.prog 7 #[.slice a0 n0 c0, .slice a1 n1 c1] w fun e w' => e = .returned (.bool true) ∧ Below w.heap.size w w' := by
  rcases h with h | ⟨h, h'⟩ | ⟨h, h', h''⟩
  all_goals
    go_enter Trym.func7, Trym.ntmps7
    go_wp2_with fail
    refine (zz17 a0 n0 c0 a1 n1 c1 _).mono ?_
    rintro e w ⟨b, rfl, rfl⟩
    cases b
    all_goals
      go_wp2
      go_ret
      exact ⟨rfl, Below.refl _ _⟩
theorem cat_none (a0 : Option Addr) (n0 c0 : Nat) (a1 : Option Addr) (c1 : Nat) (w : World) (h : n0 ≤ 1048576) :
    Calls Trym.prog 7 #[.slice a0 n0 c0, .slice a1 0 c1] w fun e w' => e = .returned (.bool true) ∧ Below w.heap.size w w' := by
  go_enter Trym.func7, Trym.ntmps7
  go_wp2_with fail
  refine (zz17 a0 n0 c0 a1 0 c1 _).mono ?_
  rintro e w ⟨b, rfl, rfl⟩
  cases b
  all_goals
    go_wp2
    go_ret
    exact ⟨rfl, Below.refl _ _⟩
end Go.Proofs.Qxb6601893aMods.Sl
