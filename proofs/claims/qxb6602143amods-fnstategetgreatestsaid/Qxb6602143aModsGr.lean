/-
  The walk of 'FnStateGetGreatest' (7).
-/
import Derived.Test.Qxb6602143aModsMp
namespace Go.Proofs.Qxb6602143aMods.St
open Go.ChangeShapes Go.WideShapes Go.ChangeAt Go.RowKit
set_option linter.unusedVariables false

set_option maxRecDepth 100000 in
set_option maxHeartbeats 2000000 in
theorem great_law (a0 : Option Addr) (n0 c0 : Nat) (a1 : Option Addr) (n1 c1 : Nat) (s : ByteArray) (K : Nat → ByteArray) (ln : Nat → Nat) (V : Nat → Nat → ByteArray) (w : World)
    (g1 : s.size ≤ 1048576) (g2 : n0 ≤ 65536) (g3 : n1 ≤ 65536) (g4 : s.size + 16 * n0 + 24 * n1 ≤ 1048576) (hl : ∀ i, i < n1 → ln i ≤ 9223372036854775807) (hks : ∀ i, i < n0 → (K i).size ≤ maxLen)
    (e0 : a0 = none → n0 = 0 ∧ c0 = 0) (e1 : a1 = none → n1 = 0 ∧ c1 = 0) (h0 : StrRow w a0 n0 K) (h1 : ValRow w a1 n1 ln V) :
    Calls Trym.prog 7 #[.slice a0 n0 c0, .slice a1 n1 c1, .string s] w fun e w' => e = .returned (.bool true) ∧ Below w.heap.size w w' := by
  have E0 : Hid (a0 = none → n0 = 0 ∧ c0 = 0) := e0
  have E1 : Hid (a1 = none → n1 = 0 ∧ c1 = 0) := e1
  have HK : Hid (∀ i, i < n0 → (K i).size ≤ maxLen) := hks
  have HL : Hid (∀ i, i < n1 → ln i ≤ 9223372036854775807) := hl
  clear e0 e1 hks hl
  go_enter Trym.func7, Trym.ntmps7
  go_wp2_with fail
  refine (zz17 a0 n0 c0 a1 n1 c1 s K ln V _ (by omega) (by omega) HL.out h0 h1).mono ?_
  rintro e w ⟨⟨b, rfl⟩, rfl⟩
  cases b
  · go_wp2
    go_ret
    exact ⟨rfl, Below.refl _ _⟩
  go_wp2_with fail
  -- the keys' sizes
  go_loop [7, 8] (fun z i => ∃ (k : Nat) (Z : Int), k ≤ n0 ∧ i = .int .i64 k ∧ z = .int .i64 Z) (fun _ i => n0 - (intOf i).toNat)
  case atStart => exact ⟨0, _, Nat.zero_le _, rfl, rfl⟩
  case round =>
    obtain ⟨k, Z, hk, rfl, rfl⟩ := hrel
    by_cases hlt : k < n0
    · rcases h0 with h | ⟨b, off, ha, hltb, hc⟩
      · omega
      subst ha
      have hck := hc k hlt
      clear hc
      go_wp2
      · go_ret
        exact ⟨rfl, Below.refl _ _⟩
      · go_ret
        exact ⟨rfl, Below.refl _ _⟩
      · go_round
        case rel => exact ⟨k + 1, _, by omega, by go_num, rfl⟩
        case measure => simp [intOf]; omega
    · go_wp2_with fail
      -- the values' sizes
      go_loop [7, 9] (fun z i => ∃ (k : Nat) (Z : Int), k ≤ n1 ∧ i = .int .i64 k ∧ z = .int .i64 Z ∧ Hid (∀ i, i < k → ln i ≤ 65536)) (fun _ i => n1 - (intOf i).toNat)
      case atStart => exact ⟨0, _, Nat.zero_le _, rfl, rfl, fun i hi => absurd hi (by omega)⟩
      case round =>
        obtain ⟨q, Z2, hq, rfl, rfl, HQ⟩ := hrel
        by_cases hlt1 : q < n1
        · rcases h1 with h | ⟨b, off, ha, hltb, hc⟩
          · omega
          subst ha
          obtain ⟨ai, ci, hcq, _, hrow⟩ := hc q hlt1
          have hlq := HL.out q hlt1
          clear hc
          by_cases hbig : 65536 < ln q
          · go_wp2
            go_ret
            exact ⟨rfl, Below.refl _ _⟩
          go_wp2
          · go_ret
            exact ⟨rfl, Below.refl _ _⟩
          · go_loop [7, 10] (fun z i => ∃ (k : Nat) (Z : Int), k ≤ ln q ∧ i = .int .i64 k ∧ z = .int .i64 Z) (fun _ i => ln q - (intOf i).toNat)
            case atStart => exact ⟨0, _, Nat.zero_le _, rfl, rfl⟩
            case round =>
              obtain ⟨r, Z3, hr, rfl, rfl⟩ := hrel
              by_cases hlt2 : r < ln q
              · rcases hrow with h | ⟨b2, off2, ha2, hltb2, hc2⟩
                · omega
                subst ha2
                have hcr := hc2 r hlt2
                clear hc2
                go_wp2
                · go_ret
                  exact ⟨rfl, Below.refl _ _⟩
                · go_ret
                  exact ⟨rfl, Below.refl _ _⟩
                · go_round
                  case rel => exact ⟨r + 1, _, by omega, by go_num, rfl⟩
                  case measure => simp [intOf]; omega
              · clear hrow
                go_wp2
                go_round
                case rel => exact ⟨q + 1, _, by omega, by go_num, rfl, fun i hi => by
                  rcases Nat.lt_or_eq_of_le (Nat.le_of_lt_succ hi) with h | rfl
                  · exact HQ.out i h
                  · omega⟩
                case measure => simp [intOf]; omega
        · obtain rfl : n1 = q := by omega
          go_upto_if 137 with fail
          go_cut [11] from 132 to 139 (fun v w' => ∃ N : Nat, v = .int .i64 N ∧ N ≤ n0 ∧ N ≤ n1 ∧ w' = w)
          case first =>
            go_wp2_with fail
            · go_meet
              case rel => exact ⟨n1, rfl, by omega, Nat.le_refl _, rfl⟩
            · go_meet
              case rel => exact ⟨n0, rfl, Nat.le_refl _, by omega, rfl⟩
          case rest =>
            obtain ⟨N, rfl, hN0, hN1, hw⟩ := hcut
            have hw' := hw.symm
            clear hw
            subst hw'
            go_wp2_with fail
            -- the last place of the key
            go_loop [12, 13] (fun jv i => ∃ (k : Nat) (J : Int), k ≤ N ∧ i = .int .i64 k ∧ jv = .int .i64 J ∧ Hid (J = jint (last K s k))) (fun _ i => N - (intOf i).toNat)
            case atStart => exact ⟨0, _, Nat.zero_le _, rfl, rfl, rfl⟩
            case round =>
              obtain ⟨k2, J, hk2, rfl, rfl, HJ⟩ := hrel
              by_cases hlt2 : k2 < N
              · rcases h0 with h | ⟨b, off, ha, hltb, hc⟩
                · omega
                subst ha
                have hck := hc k2 (by omega)
                clear hc h1
                by_cases he : ((K k2).toList == s.toList) = true
                · have HE : Hid (last K s (k2 + 1) = some k2) := last_yes he
                  go_wp2
                  go_round
                  case rel => exact ⟨k2 + 1, _, by omega, by go_num, rfl, by rw [HE.out]; rfl⟩
                  case measure => simp [intOf]; omega
                · have he' : ((K k2).toList == s.toList) = false := by simpa using he
                  have HE : Hid (last K s (k2 + 1) = last K s k2) := last_no he'
                  clear he
                  go_wp2
                  go_round
                  case rel => exact ⟨k2 + 1, _, by omega, by go_num, rfl, by rw [HE.out]; exact HJ⟩
                  case measure => simp [intOf]; omega
              · obtain rfl : N = k2 := by omega
                go_upto_if 153 with fail
                go_cut [] from 152 to 174 (fun w' => Below w.heap.size w w' ∧ Hid (∀ j, last K s N = some j → Rises (ln j) (V j)))
                case first =>
                  by_cases hJ : J < 0
                  · go_wp2_with fail
                    go_meet
                    case rel => exact ⟨Below.refl _ _, fun j hj => absurd hJ (by rw [HJ.out, hj]; simp [jint])⟩
                  obtain ⟨j, HLj, hjJ⟩ := last_some HJ.out (by omega)
                  have hjN := last_lt HLj
                  subst hjJ
                  rcases h1 with h | ⟨b, off, ha, hltb, hc⟩
                  · omega
                  subst ha
                  obtain ⟨aj, cj, hcj, _, hrow⟩ := hc j (by omega)
                  have hlj := HQ.out j (by omega)
                  clear hc h0
                  go_wp2_with fail
                  go_loopw [15] (fun t wr => ∃ u : Nat, (u = 0 ∨ u + 1 ≤ ln j) ∧ t = .int .i64 ((u : Int) + 1) ∧ (∃ m, wr = w.drewN m) ∧ Hid (Rises (u + 1) (V j))) (fun t _ => ln j + 1 - (intOf t).toNat)
                  case atStart => exact ⟨0, .inl rfl, rfl, ⟨0, rfl⟩, fun u hu => absurd hu (by omega)⟩
                  case round =>
                    obtain ⟨u, hu, rfl, ⟨m, rfl⟩, HR⟩ := hrel
                    by_cases hlt3 : u + 1 < ln j
                    · rcases hrow with h | ⟨b2, off2, ha2, hltb2, hc2⟩
                      · omega
                      subst ha2
                      have k0 := hc2 u (by omega)
                      have k1 := hc2 (u + 1) hlt3
                      have i0 : (u : Int) < (ln j : Int) := by omega
                      have i1 : (u : Int) + 1 < (ln j : Int) := by omega
                      clear hc2
                      by_cases hb : Op.bytesLess (V j u).toList (V j (u + 1)).toList = true
                      · go_wp2
                        go_quiet (fail)
                        go_wp2
                        go_roundw
                        case rel => exact ⟨u + 1, .inr (by omega), by go_num, ⟨_, rfl⟩, rises_next HR.out hb⟩
                        case measure => simp [intOf]; omega
                      · have hb' : Op.bytesLess (V j u).toList (V j (u + 1)).toList = false := by simpa using hb
                        clear hb
                        go_wp2
                        go_quiet (fail)
                        go_wp2
                        go_ret
                        exact ⟨rfl, below_drewN (below_drewN (Below.refl _ _) _) _⟩
                    · clear hrow
                      go_wp2
                      go_meet
                      case rel => exact ⟨below_drewN (Below.refl _ _) _, fun j' hj' => by
                        rw [HLj] at hj'
                        cases hj'
                        exact rises_le HR.out (by omega)⟩
                case rest =>
                  obtain ⟨hbw, HS⟩ := hcut
                  have hnq := fun (w : World) (a : Option Addr) (n c n' c' : Nat) => run_neq_slice_nil_any (P := Trym.prog) w 33 9 a n c n' c' Trym.underlying33
                  have hnq2 := fun (w : World) (a : Option Addr) (n c n' c' : Nat) => run_neq_slice_nil_any (P := Trym.prog) w 34 33 a n c n' c' Trym.underlying34
                  have h0' := h0.later hbw
                  have h1' := h1.later hbw
                  clear h0 h1
                  have hmk := fun (w : World) => run_make_row' (P := Trym.prog) 33 9 (.string ByteArray.empty) 16 Trym.underlying33 info9 rfl .i64 .i64 n0 (by omega) (by omega) w
                  go_upto_if 176 with fail
                  -- the keys' copy
                  go_cut [16] from 175 to 192 (fun v w' => Below wc.heap.size wc w' ∧ ∃ a c, v = .slice a n0 c ∧ StrRow w' a n0 K)
                  case first =>
                    clear h1'
                    cases a0 with
                    | none =>
                      have hn0 := (E0.out rfl).1
                      have HN0 : Hid (n0 = 0) := hn0
                      clear hn0
                      go_wp2_with fail
                      go_meet
                      case rel => exact ⟨Below.refl _ _, none, 0, by rw [HN0.out], .inl HN0.out⟩
                    | some x =>
                      go_wp2_with fail
                      go_loopw [17] (fun i wr => ∃ m : Nat, m ≤ n0 ∧ i = .int .i64 m ∧ Part 9 wc wr n0 (fun i => .string (K i)) m) (fun i _ => n0 - (intOf i).toNat)
                      case atStart => exact ⟨0, Nat.zero_le _, rfl, Part.start _ (by omega)⟩
                      case round =>
                        obtain ⟨m, hm, rfl, hp⟩ := hrel
                        by_cases hlt4 : m < n0
                        · rcases h0' with h | ⟨b, off, ha, hltb, hc⟩
                          · omega
                          obtain rfl : x = ⟨b, off, none⟩ := by simpa using ha
                          have k1 := (hp.below.cell (p := ⟨b, off + m, none⟩) hltb).trans (hc m hlt4)
                          obtain ⟨v, k2⟩ := hp.cell hlt4
                          have k3 := hp.free m
                          have HN := hp.next hlt4
                          clear hmk hc hp ha
                          go_wp2
                          go_roundw
                          case rel => exact ⟨m + 1, by omega, by go_num, HN⟩
                          case measure => simp [intOf]; omega
                        · obtain rfl : n0 = m := by omega
                          clear hmk h0'
                          go_wp2
                          go_meet
                          case rel => exact ⟨hp.below, _, _, rfl, hp.row⟩
                  case rest =>
                    obtain ⟨hb7, ak, ck, rfl, hkeys⟩ := hcut
                    have hbw7 : Below w.heap.size w wc := hbw.trans (hb7.mono hbw.size)
                    have h17 := h1'.later hb7
                    clear hb7 hbw h0' h1' hmk
                    have hmk := fun (w : World) => run_make_row' (P := Trym.prog) 34 33 (.slice none 0 0) 24 Trym.underlying34 info33 rfl .i64 .i64 n1 (by omega) (by omega) w
                    go_upto_if 195 with fail
                    -- the values' copy
                    go_cut [18] from 194 to 238 (fun v w' => Below wc.heap.size wc w' ∧ ∃ a c, v = .slice a n1 c ∧ ValRow w' a n1 ln V)
                    case first =>
                      clear hkeys
                      cases a1 with
                      | none =>
                        have hn1 := (E1.out rfl).1
                        have HN1 : Hid (n1 = 0) := hn1
                        clear hn1
                        go_wp2_with fail
                        go_meet
                        case rel => exact ⟨Below.refl _ _, none, 0, by rw [HN1.out], .inl HN1.out⟩
                      | some x =>
                        go_wp2_with fail
                        go_loopw [19] (fun i wr => ∃ m : Nat, m ≤ n1 ∧ i = .int .i64 m ∧ VPart wc wr n1 ln V m) (fun i _ => n1 - (intOf i).toNat)
                        case atStart => exact ⟨0, Nat.zero_le _, rfl, VPart.start (by omega)⟩
                        case round =>
                          obtain ⟨m, hm, rfl, hp⟩ := hrel
                          clear hmk
                          by_cases hlt5 : m < n1
                          · rcases h17 with h | ⟨b, off, ha, hltb, hc⟩
                            · omega
                            obtain rfl : x = ⟨b, off, none⟩ := by simpa using ha
                            obtain ⟨ai, ci, hci, hnil, hrow⟩ := hc m hlt5
                            have k1 := (hp.below.cell (p := ⟨b, off + m, none⟩) hltb).trans hci
                            have hlm := HQ.out m hlt5
                            have k2 := hp.cell hlt5
                            have k3 := hp.free m
                            have k4 := hp.lt
                            clear hc ha hci
                            cases ai with
                            | none =>
                              have HZ : Hid (ln m = 0) := (hnil rfl).1
                              clear hnil hrow
                              go_wp2
                              go_roundw
                              case rel => exact ⟨m + 1, by omega, by go_num, hp.skip hlt5 HZ.out⟩
                              case measure => simp [intOf]; omega
                            | some y =>
                              have hmk := fun (w : World) => run_make_row' (P := Trym.prog) 33 9 (.string ByteArray.empty) 16 Trym.underlying33 info9 rfl .i64 .i64 (ln m) (by omega) (by omega) w
                              clear hnil
                              have hbl : b < wr.heap.size := Nat.lt_of_lt_of_le hltb hp.below.size
                              have hrow' := hrow.later hp.below
                              clear hrow
                              go_wp2_with fail
                              go_loopw [21] (fun i wi => ∃ q : Nat, q ≤ ln m ∧ i = .int .i64 q ∧ Part 9 wr wi (ln m) (fun i => .string (V m i)) q) (fun i _ => ln m - (intOf i).toNat)
                              case atStart => exact ⟨0, Nat.zero_le _, rfl, Part.start _ (by omega)⟩
                              case round =>
                                obtain ⟨q, hq, rfl, hp2⟩ := hrel
                                have j1 := (hp2.below.cell (p := ⟨b, off + m, none⟩) hbl).trans k1
                                have j2 := (hp2.below.cell (p := ⟨wc.heap.size, m, none⟩) k4).trans k2
                                have j3 := (hp2.below.frozen (p := ⟨wc.heap.size, m, none⟩) k4).trans k3
                                clear hmk k1 k2 k3
                                by_cases hlt6 : q < ln m
                                · rcases hrow' with h | ⟨b2, off2, ha2, hltb2, hc2⟩
                                  · omega
                                  obtain rfl : y = ⟨b2, off2, none⟩ := by simpa using ha2
                                  have l1 := (hp2.below.cell (p := ⟨b2, off2 + q, none⟩) hltb2).trans (hc2 q hlt6)
                                  obtain ⟨v, l2⟩ := hp2.cell hlt6
                                  have l3 := hp2.free q
                                  have HN := hp2.next hlt6
                                  clear hc2 ha2 hp2 j2 j3
                                  go_wp2
                                  go_roundw
                                  case rel => exact ⟨q + 1, by omega, by go_num, HN⟩
                                  case measure => simp [intOf]; omega
                                · obtain rfl : ln m = q := by omega
                                  have HV := hp.next hlt5 hp2
                                  clear hrow' hp hp2
                                  go_wp2
                                  go_roundw
                                  case rel => exact ⟨m + 1, by omega, by go_num, HV⟩
                                  case measure => simp [intOf]; omega
                          · obtain rfl : n1 = m := by omega
                            clear h17
                            go_wp2
                            go_meet
                            case rel => exact ⟨hp.below, _, _, rfl, hp.row⟩
                    case rest =>
                      obtain ⟨hb8, av, cv, rfl, hvals⟩ := hcut
                      have hbw8 : Below w.heap.size w wc := hbw7.trans (hb8.mono hbw7.size)
                      have hkeys8 := hkeys.later hb8
                      clear hb8 hbw7 h17 hmk hkeys hnq hnq2
                      have hmm := run_makeMap_hint
                      go_wp2_with fail
                      clear hmm
                      -- the map is filled
                      go_loopw [23] (fun i wr => ∃ m : Nat, m ≤ N ∧ i = .int .i64 m ∧ MapRel wc wr K s ln V m) (fun i _ => N - (intOf i).toNat)
                      case atStart => exact ⟨0, Nat.zero_le _, rfl, MapRel.start _ _ _ _ _⟩
                      case round =>
                        obtain ⟨m, hm, rfl, hmap⟩ := hrel
                        by_cases hlt7 : m < N
                        · rcases hkeys8 with h | ⟨b, off, ha, hltb, hc⟩
                          · omega
                          rcases hvals with h | ⟨b2, off2, ha2, hltb2, hc2⟩
                          · omega
                          subst ha ha2
                          obtain ⟨ai, ci, hci, _, hrow⟩ := hc2 m (by omega)
                          have k1 := (hmap.1.cell (p := ⟨b, off + m, none⟩) hltb).trans (hc m (by omega))
                          have k2 := (hmap.1.cell (p := ⟨b2, off2 + m, none⟩) hltb2).trans hci
                          obtain ⟨w1, hrun, HM⟩ := hmap.next (by omega) (HK.out m (by omega)) ai ci hrow 1
                          have hrun' : (Instr.mapUpdate 36 (.map (some wc.heap.size)) (.string (K m)) (.slice ai (ln m) ci)).run Trym.prog wr.drew = .ok () w1 := hrun
                          have i0 : (m : Int) < (n0 : Int) := by omega
                          have i1 : (m : Int) < (n1 : Int) := by omega
                          clear hc hc2 hrun hmap hrow hci
                          go_wp2
                          go_region
                          go_wp2
                          go_roundw
                          case rel => exact ⟨m + 1, by omega, by go_num, HM⟩
                          case measure => simp [intOf]; omega
                        · obtain rfl : N = m := by omega
                          obtain ⟨v, hlook, hHeld⟩ := hmap.look (show s.size ≤ maxLen by unfold maxLen; omega) (.cells #[.map (some wc.heap.size)] 40)
                          have hend : Below w.heap.size w (wr.alloc (.cells #[.map (some wc.heap.size)] 40)) := (hbw8.trans (hmap.1.mono hbw8.size)).alloc (Nat.le_trans hbw8.size hmap.1.size) _
                          have hbm : Below wc.heap.size wc (wr.alloc (.cells #[.map (some wc.heap.size)] 40)) := hmap.1.alloc hmap.1.size _
                          have hpt : (wr.alloc (.cells #[.map (some wc.heap.size)] 40)).cell? ⟨wr.heap.size, 0, none⟩ = some (.map (some wc.heap.size)) := by simp
                          clear hmap hkeys8
                          go_wp2_with fail
                          refine (new_any wc.heap.size _).mono ?_
                          rintro e w2 ⟨rfl, hw2⟩
                          rw [← hw2] at hlook hend hbm hpt
                          clear hw2
                          go_wp2_with fail
                          have HJ' := HJ.out
                          have HSo := HS.out
                          rcases hlast : last K s N with _ | j
                          · rw [hlast] at hHeld HJ'
                            obtain rfl : v = .slice none 0 0 := hHeld
                            obtain rfl : J = -1 := HJ'
                            refine (get_none wr.heap.size wc.heap.size none 0 s _ hpt hlook).mono ?_
                            rintro e w3 ⟨rfl, hw3⟩
                            clear hlook hpt hbm hvals HJ hlast HSo
                            rw [← hw3] at hend
                            clear hw3
                            go_wp2
                            go_ret
                            exact ⟨rfl, hend⟩
                          · rw [hlast] at hHeld HJ'
                            obtain ⟨aj, cj, rfl, hrowj⟩ := hHeld
                            obtain rfl : J = (j : Int) := HJ'
                            have hjN := last_lt hlast
                            have hris := HSo j hlast
                            have HRis : Hid (Rises (ln j) (V j)) := hris
                            have hlj := HQ.out j (by omega)
                            rcases hvals with h | ⟨b2, off2, ha2, hltb2, hc2⟩
                            · omega
                            subst ha2
                            obtain ⟨ai, ci, hci, _, hrowi⟩ := hc2 j (by omega)
                            have k2 := (hbm.cell (p := ⟨b2, off2 + j, none⟩) hltb2).trans hci
                            have hrj := hrowj.later hbm
                            have hri := hrowi.later hbm
                            clear hc2 hci hrowi hrowj HJ hlast HSo hris HS
                            by_cases hz : ln j = 0
                            · have hz' : ((ln j : Int) == 0) = true := by simp; omega
                              have hlook' := hlook
                              rw [hz] at hlook'
                              refine (get_none wr.heap.size wc.heap.size aj cj s _ hpt hlook').mono ?_
                              rintro e w3 ⟨rfl, hw3⟩
                              rw [← hw3] at hend k2
                              clear hlook hlook' hpt hbm hw3 hrj hri hz
                              go_wp2
                              go_ret
                              exact ⟨rfl, hend⟩
                            · have hz' : ((ln j : Int) == 0) = false := by simp; omega
                              rcases hrj with h | ⟨b3, off3, ha3, hltb3, hc3⟩
                              · omega
                              rcases hri with h | ⟨b4, off4, ha4, hltb4, hc4⟩
                              · omega
                              rw [ha3] at hlook
                              rw [ha4] at k2
                              refine (get_some wr.heap.size wc.heap.size b3 off3 (ln j) cj s (V j (ln j - 1)) _ (by omega) (by omega) hpt hlook (hc3 _ (by omega))).mono ?_
                              rintro e w3 ⟨rfl, hw3⟩
                              rw [← hw3] at hend k2 hc4
                              clear hlook hpt hbm hw3 hc3 ha3 ha4
                              go_wp2_with fail
                              go_loop [26, 28] (fun f t => ∃ (q : Nat) (F : Bool), q ≤ ln j ∧ t = .int .i64 q ∧ f = .bool F ∧ Hid (q = ln j → F = true)) (fun _ t => ln j - (intOf t).toNat)
                              case atStart => exact ⟨0, false, Nat.zero_le _, rfl, rfl, fun h => absurd h.symm hz⟩
                              case round =>
                                obtain ⟨q, F, hq, rfl, rfl, HF⟩ := hrel
                                by_cases hlt9 : q < ln j
                                · have k4 := hc4 q hlt9
                                  have hb := rises_last HRis.out q hlt9
                                  clear hc4 k2
                                  by_cases he : ((V j q).toList == (V j (ln j - 1)).toList) = true
                                  · go_wp2
                                    go_round
                                    case rel => exact ⟨q + 1, true, by omega, by go_num, rfl, fun _ => rfl⟩
                                    case measure => simp [intOf]; omega
                                  · have he' : ((V j q).toList == (V j (ln j - 1)).toList) = false := by simpa using he
                                    have hne : q ≠ ln j - 1 := fun e => he (by rw [e]; simp)
                                    clear he
                                    go_wp2
                                    go_round
                                    case rel => exact ⟨q + 1, F, by omega, by go_num, rfl, fun h => absurd h (by omega)⟩
                                    case measure => simp [intOf]; omega
                                · obtain rfl : F = true := HF.out (by omega)
                                  clear hc4 k2
                                  go_wp2
                                  go_ret
                                  exact ⟨rfl, hend⟩
end Go.Proofs.Qxb6602143aMods.St
