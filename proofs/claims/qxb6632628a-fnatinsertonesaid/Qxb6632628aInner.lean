/-
  SEAT b6632628a: FnAtIsInnermostEarliest: the walk out of the contracts.
-/
import Derived.Test.Qxb6632628aAt
namespace Go.Proofs.Qxb6632628a
open Go.RowKit Go.Proofs.Qxb6632628a.Plain

theorem wn_zero (o : Option Nat) : wn o 0 = 0 := by cases o <;> simp [wn]
theorem ws_zero (S : Nat → ByteArray) (o : Option Nat) : ws S o 0 = ByteArray.empty := by cases o <;> simp [ws]

theorem spans_is (r : Bool) (S : ByteArray) (f l x : Int) (w : World) (hr : Hid ((decide (f ≤ x) && decide (x ≤ l)) = r)) :
    Calls Try.prog 9 #[.agg #[.string S, .int .i64 f, .int .i64 l], .int .i64 x] w fun e w' => e = .returned (.bool r) ∧ Below w.heap.size w w' := by
  refine (spans_any S f l x w).mono ?_
  rintro e w' ⟨he, rfl⟩
  exact ⟨by rw [he, hr.out], (Below.refl _ _).alloc (Nat.le_refl _) _⟩

set_option maxHeartbeats 1000000 in
set_option maxRecDepth 100000 in
theorem inner_walk (a : Option Addr) (n c : Nat) (x : Int) (S : Nat → ByteArray) (F L : Nat → Int) (w : World) (m1 : n ≤ 9223372036854775807) (v : DV w a n S F L) (hnil : a = none → n = 0) :
    Calls Try.prog 3 #[.slice a n c, .int .i64 x] w fun e w' => e = .returned (.bool true) ∧ Below w.heap.size w w' := by
  go_enter Try.func3, Try.ntmps3
  go_wp2_with fail
  refine (zzBytes5_any a n c x S F L w m1 v).mono ?_
  rintro e w' ⟨r, rfl, _, rfl⟩
  cases r with
  | false =>
    go_wp2
    go_ret
    exact ⟨rfl, Below.refl _ _⟩
  | true =>
    go_wp2_with fail
    refine (fits_any a n c _ S F L _ m1 v).mono ?_
    rintro e w' ⟨r, rfl, hp, rfl⟩
    cases r with
    | false =>
      go_wp2
      go_ret
      exact ⟨rfl, Below.refl _ _⟩
    | true =>
      have hn := hp rfl
      clear hp m1
      go_wp2_with fail
      refine (toOutline_any a n c S F L _ hn v hnil).mono ?_
      rintro e w1 ⟨ao, co, rfl, vo, b1⟩
      have v1 := v.below b1
      clear v hnil
      go_wp2_with fail
      refine (at_any ao n co x S F L w1 (by omega) vo).mono ?_
      rintro e w2 ⟨rfl, b2⟩
      have v2 := v1.below b2
      have b02 := b1.trans (b2.mono b1.size)
      clear v1 vo b1 b2
      obtain ⟨O, hO⟩ : ∃ O, O = best F L x n := ⟨_, rfl⟩
      have HO : Hid (O = best F L x n) := hO
      rw [← hO]
      have HW : Hid (ws S O n = nm S O) := by show _ = _; rw [hO]; exact ws_all
      obtain ⟨G, hG⟩ : ∃ G, G = nm S O := ⟨_, rfl⟩
      rw [← hG] at HW ⊢
      have HG : Hid (G = nm S O) := hG
      clear hO hG
      go_wp2
      go_loopw [7, 8, 9, 10, 11, 12] (fun an wi wa i _ _ wr => ∃ k : Nat, k ≤ n ∧ i = .int .i64 k ∧ an = .bool (anyB F L x k) ∧ wi = .int .i64 (wn O k) ∧ wa = .string (ws S O k) ∧ Below w2.heap.size w2 wr) (fun _ _ _ i _ _ _ => n - (intOf i).toNat)
      case atStart => exact ⟨0, Nat.zero_le _, rfl, rfl, by rw [wn_zero], by rw [ws_zero]; rfl, Below.refl _ _⟩
      case round =>
        obtain ⟨k, hkn, rfl, rfl, rfl, rfl, hb⟩ := hrel
        obtain ⟨AN, hAN⟩ : ∃ y, y = anyB F L x k := ⟨_, rfl⟩
        obtain ⟨WN, hWN⟩ : ∃ y, y = wn O k := ⟨_, rfl⟩
        obtain ⟨WS, hWS⟩ : ∃ y, y = ws S O k := ⟨_, rfl⟩
        have hbd := wn_bd O k
        rw [← hWN] at hbd
        rw [← hAN, ← hWN, ← hWS]
        have HA : Hid (AN = anyB F L x k ∧ WN = wn O k ∧ WS = ws S O k) := ⟨hAN, hWN, hWS⟩
        clear hAN hWN hWS
        by_cases h1 : k < n
        · have vr := v2.below hb
          obtain ⟨b, off, rfl, hc⟩ := vr.resolve_left (by omega)
          obtain ⟨g1, g2, g3⟩ := hc k h1
          clear vr hc
          cases hsp : sp F L x k with
          | false =>
            have HM : Hid (O ≠ some k) := by
              show O ≠ some k
              intro e
              have := (best_some n k (HO.out ▸ e)).spans
              rw [hsp] at this
              cases this
            have HSP : Hid (sp F L x k = false) := hsp
            clear hsp
            go_wp2_with fail
            refine (spans_is false _ _ _ _ _ HSP).mono ?_
            rintro e w3 ⟨rfl, b3⟩
            have hb3 := hb.trans (b3.mono hb.size)
            clear b3 g1 g2 g3
            go_wp2
            go_roundw
            case rel => exact ⟨k + 1, by omega, by go_num, by rw [HA.out.1]; simp [anyB, HSP.out], by rw [HA.out.2.1, wn_miss HM.out], by rw [HA.out.2.2, ws_miss HM.out], hb3⟩
            case measure => simp [intOf]; omega
          | true =>
            have HSP : Hid (sp F L x k = true) := hsp
            clear hsp
            go_wp2_with fail
            refine (spans_is true _ _ _ _ _ HSP).mono ?_
            rintro e w3 ⟨rfl, b3⟩
            have hb3 := hb.trans (b3.mono hb.size)
            clear b3 g1 g2 g3 hb
            go_wp2
            go_loopw [11, 12] (fun o j wr => o = .bool true ∧ ∃ j' : Nat, j' ≤ n ∧ j = .int .i64 j' ∧ (∀ i, i < j' → good F L x k i) ∧ Below w2.heap.size w2 wr) (fun _ j _ => n - (intOf j).toNat)
            case atStart => exact ⟨rfl, 0, Nat.zero_le _, rfl, fun i hi => by omega, hb3⟩
            case round =>
              clear hb3
              obtain ⟨rfl, j, hjn, rfl, hall, hb⟩ := hrel
              have HALL : Hid (∀ i, i < j → good F L x k i) := hall
              clear hall
              by_cases h2 : j < n
              · obtain ⟨b', off', hab, hc⟩ := (v2.below hb).resolve_left (by omega)
                simp only [Option.some.injEq, Addr.mk.injEq] at hab
                obtain ⟨rfl, rfl, _⟩ := hab
                obtain ⟨g1, g2, g3⟩ := hc j h2
                obtain ⟨q1, q2, q3⟩ := hc k h1
                clear hc
                by_cases hjk : j = k
                · subst hjk
                  have HN : Hid (∀ i, i < j + 1 → good F L x j i) := fun i hi => by by_cases e : i = j; exact .inl e; exact HALL.out i (by omega)
                  go_wp2
                  go_roundw
                  case rel => exact ⟨rfl, j + 1, by omega, by go_num, HN.out, hb⟩
                  case measure => simp [intOf]; omega
                · have hjk0 : ((j : Int) == (k : Int)) = false := by simp; omega
                  cases hsj : sp F L x j with
                  | false =>
                    have HSJ : Hid (sp F L x j = false) := hsj
                    have HN : Hid (∀ i, i < j + 1 → good F L x k i) := fun i hi => by by_cases e : i = j; (rw [e]; exact .inr (.inl hsj)); exact HALL.out i (by omega)
                    clear hsj
                    go_wp2_with fail
                    refine (spans_is false _ _ _ _ _ HSJ).mono ?_
                    rintro e w4 ⟨rfl, b4⟩
                    have hb4 := hb.trans (b4.mono hb.size)
                    clear b4 g1 g2 g3 q1 q2 q3 hb
                    go_wp2
                    go_roundw
                    case rel => exact ⟨rfl, j + 1, by omega, by go_num, HN.out, hb4⟩
                    case measure => simp [intOf]; omega
                  | true =>
                    have HSJ : Hid (sp F L x j = true) := hsj
                    clear hsj
                    go_wp2_with fail
                    refine (spans_is true _ _ _ _ _ HSJ).mono ?_
                    rintro e w4 ⟨rfl, b4⟩
                    have hb4 := hb.trans (b4.mono hb.size)
                    have g2' := (b4.cell (cell_block g2)).trans g2
                    have q2' := (b4.cell (cell_block q2)).trans q2
                    clear b4 g1 g2 g3 q1 q2 q3 hb
                    by_cases c1 : F k < F j
                    · have HM : Hid (O ≠ some k) := by
                        show O ≠ some k
                        intro e
                        rcases good_best h2 (HO.out ▸ e) with e1 | e1 | ⟨e1, _⟩
                        · exact hjk e1
                        · rw [HSJ.out] at e1; cases e1
                        · exact e1 c1
                      go_wp2
                      go_quiet (fail)
                      go_wp2
                      go_roundw
                      case rel => exact ⟨k + 1, by omega, by go_num, by simp [anyB, HSP.out], by rw [HA.out.2.1, wn_miss HM.out], by rw [HA.out.2.2, ws_miss HM.out], below_drewN hb4 _⟩
                      case measure => simp [intOf]; omega
                    · by_cases c2 : j < k
                      · have c2' : (j : Int) < (k : Int) := by omega
                        by_cases c3 : F j = F k
                        · have HM : Hid (O ≠ some k) := by
                            show O ≠ some k
                            intro e
                            rcases good_best h2 (HO.out ▸ e) with e1 | e1 | ⟨_, e1⟩
                            · exact hjk e1
                            · rw [HSJ.out] at e1; cases e1
                            · exact e1 ⟨c2, c3⟩
                          have c4 : (F j == F k) = true := by simpa using c3
                          clear c3
                          go_wp2
                          go_quiet (fail)
                          go_wp2
                          go_quiet (fail)
                          go_wp2
                          go_roundw
                          case rel => exact ⟨k + 1, by omega, by go_num, by simp [anyB, HSP.out], by rw [HA.out.2.1, wn_miss HM.out], by rw [HA.out.2.2, ws_miss HM.out], below_drewN hb4 _⟩
                          case measure => simp [intOf]; omega
                        · have HN : Hid (∀ i, i < j + 1 → good F L x k i) := fun i hi => by by_cases e : i = j; (rw [e]; exact .inr (.inr ⟨c1, fun h => c3 h.2⟩)); exact HALL.out i (by omega)
                          have c4 : (F j == F k) = false := by simpa using c3
                          clear c3
                          go_wp2
                          go_quiet (fail)
                          go_wp2
                          go_quiet (fail)
                          go_wp2
                          go_roundw
                          case rel => exact ⟨rfl, j + 1, by omega, by go_num, HN.out, below_drewN hb4 _⟩
                          case measure => simp [intOf]; omega
                      · have c2' : decide ((j : Int) < (k : Int)) = false := by simp; omega
                        have HN : Hid (∀ i, i < j + 1 → good F L x k i) := fun i hi => by by_cases e : i = j; (rw [e]; exact .inr (.inr ⟨c1, fun h => c2 h.1⟩)); exact HALL.out i (by omega)
                        go_wp2
                        go_quiet (fail)
                        go_wp2
                        go_quiet (fail)
                        go_wp2
                        go_roundw
                        case rel => exact ⟨rfl, j + 1, by omega, by go_num, HN.out, below_drewN hb4 _⟩
                        case measure => simp [intOf]; omega
              · obtain rfl : j = n := by omega
                have HW1 : Hid (O = some k) := by
                  show O = some k
                  rw [HO.out]
                  exact best_good h1 HSP.out HALL.out
                obtain ⟨b', off', hab, hc⟩ := (v2.below hb).resolve_left (by omega)
                simp only [Option.some.injEq, Addr.mk.injEq] at hab
                obtain ⟨rfl, rfl, _⟩ := hab
                obtain ⟨q1, q2, q3⟩ := hc k h1
                clear hc
                go_wp2
                go_roundw
                case rel => exact ⟨k + 1, by omega, by go_num, by simp [anyB, HSP.out], by rw [HA.out.2.1, HW1.out, wn_hit], by rw [HW1.out, ws_hit], hb⟩
                case measure => simp [intOf]; omega
        · obtain rfl : k = n := by omega
          have bb := b02.trans (hb.mono b02.size)
          cases ho : O with
          | none =>
            have e1 : AN = false := by rw [HA.out.1]; exact anyB_none k (best_none k (by rw [← HO.out, ho]))
            have e2 : WN = 0 := by rw [HA.out.2.1, ho]; rfl
            have e3 : WS = G := by rw [HA.out.2.2, HW.out]
            rw [e1, e2, e3]
            clear v2 ho e1 e2 e3 hbd
            go_wp2
            go_ret
            exact ⟨rfl, bb⟩
          | some y =>
            have hy := best_some k y (by rw [← HO.out, ho])
            have e1 : AN = true := by rw [HA.out.1]; exact anyB_some hy.spans k hy.lt
            have e2 : WN = 1 := by rw [HA.out.2.1, ho]; exact if_pos hy.lt
            have e3 : WS = G := by rw [HA.out.2.2, HW.out]
            rw [e1, e2, e3]
            clear v2 ho e1 e2 e3 hbd hy
            go_wp2
            go_ret
            exact ⟨rfl, bb⟩

end Go.Proofs.Qxb6632628a
