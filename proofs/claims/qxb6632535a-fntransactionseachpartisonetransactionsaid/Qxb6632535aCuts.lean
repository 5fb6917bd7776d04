/-
  SEAT b6632535a: FnTransactionsCutsAfterLeadingCommitted: the walk out of the contracts.
-/
import Derived.Test.Qxb6632535aBytes5
import Derived.Test.Qxb6632535aBound
import Derived.Test.Qxb6632535aTrans
import Derived.Test.Qxb6632535aBuild
namespace Go.Proofs.Qxb6632535a
open Go.RowKit

theorem HV.drew {w : World} {lo : Nat} {a : Option Addr} {n : Nat} {X Y Z : Nat → ByteArray} (h : HV w lo a n X Y Z) : HV w.drew lo a n X Y Z := h
theorem keepB {w w' : World} {p : Addr} {v : Value} (hb : Below w.drew.heap.size w.drew w') (h : w.cell? p = some v) : w'.cell? p = some v := (hb.cell (cell_block (w := w) h)).trans h
theorem belowB {a w w' : World} (h : Below a.heap.size a w) (hb : Below w.drew.heap.size w.drew w') : Below a.heap.size a w' := h.drew.trans (hb.mono h.size)

theorem Parts.below {w w' : World} {ag : Option Addr} {b off c np : Nat} {s : Nat → Nat} (h : Parts w ag b off c np s) (hb : Below w.heap.size w w') : Parts w' ag b off c np s := by
  rcases h with h | ⟨g, ha, hc⟩
  · exact .inl h
  · exact .inr ⟨g, ha, fun i hi => (hb.cell (cell_block (hc i hi))).trans (hc i hi)⟩

theorem SV.get {w : World} {b off n : Nat} {K : Con} {A : Nat → Option Addr} {cp : Nat → Nat} (h : SV w (some ⟨b, off, none⟩) n K A cp) {i o : Nat} (hi : i < n) (ho : o = off + i * 3) :
    w.cell? ⟨b, o, none⟩ = some (.string (K.S i)) ∧ w.cell? ⟨b, o + 1, none⟩ = some (.slice (A i) (K.L i) (cp i)) ∧ w.cell? ⟨b, o + 2, none⟩ = some (.bool (K.C i)) ∧ HV w 0 (A i) (K.L i) (K.X i) (K.Y i) (K.Z i) := by
  obtain ⟨b1, off1, hab, hcell⟩ := h.resolve_left (by omega)
  simp only [Option.some.injEq, Addr.mk.injEq] at hab
  obtain ⟨rfl, rfl, _⟩ := hab
  subst ho
  exact hcell i hi

theorem Cut.top {n : Nat} {C : Nat → Bool} {np : Nat} {s : Nat → Nat} {m : Nat} (h : Cut n C np s m) {i : Nat} (hi : i < np) : s (i + 1) ≤ n := by
  rcases h.many with ⟨_, h0⟩ | ⟨_, h1, _⟩ | ⟨_, _, h2, _⟩
  · omega
  · subst h1
    obtain rfl : i = 0 := by omega
    exact Nat.le_of_eq h.last
  · subst h2
    match i, hi with
    | 0, _ => have := h.up 1 (by omega); have e := h.last; show s 1 ≤ n; omega
    | 1, _ => exact Nat.le_of_eq h.last

/-- is there an ordinary statement among the first q? -/
def hasO (C : Nat → Bool) : Nat → Bool
  | 0 => false
  | q + 1 => hasO C q || !C q
theorem hasO_all {C : Nat → Bool} : ∀ q, (∀ i, i < q → C i = true) → hasO C q = false
  | 0, _ => rfl
  | q + 1, h => by simp [hasO, hasO_all q (fun i hi => h i (by omega)), h q (by omega)]
theorem hasO_some {C : Nat → Bool} {i : Nat} (hi : C i = false) : ∀ q, i < q → hasO C q = true
  | 0, h => by omega
  | q + 1, h => by
    by_cases e : i = q
    · subst e; simp [hasO, hi]
    · simp [hasO, hasO_some hi q (by omega)]

set_option maxHeartbeats 1000000 in
set_option maxRecDepth 100000 in
theorem cuts_walk (a : Option Addr) (n c : Nat) (K : Con) (A : Nat → Option Addr) (cp : Nat → Nat) (w : World) (m1 : n ≤ 9223372036854775807) (v : SV w a n K A cp) (hL : ∀ i, i < n → K.L i ≤ 9223372036854775807) (hnil : ∀ i, i < n → A i = none → K.L i = 0) :
    Calls Try.prog 3 #[.slice a n c] w fun e w' => e = .returned (.bool true) ∧ Below w.heap.size w w' := by
  go_enter Try.func3, Try.ntmps3
  go_wp2_with fail
  refine (zzBytes5_any a n c K A cp w m1 v hL).mono ?_
  rintro e w1 ⟨r, rfl, hp, b1⟩
  clear hp
  cases r with
  | false =>
    go_wp2
    go_ret
    exact ⟨rfl, b1⟩
  | true =>
    have v1 := v.below b1
    by_cases hn : 65536 < ((n : Nat) : Int)
    · go_wp2
      go_ret
      exact ⟨rfl, b1⟩
    go_wp2_with fail
    refine (zzInBound_any a n c K A cp w1 m1 v1 hL).mono ?_
    rintro e w2 ⟨r, rfl, hp, b2⟩
    have b02 := b1.trans (b2.mono b1.size)
    have v2 := v1.below b2
    clear b1 b2 v1 v
    cases r with
    | false =>
      go_wp2
      go_ret
      exact ⟨rfl, b02⟩
    | true =>
      have hL2 := hp rfl
      clear hp hL
      go_wp2_with fail
      refine (zzBuild_any a n c K A cp w2 (by omega) v2 hL2 hnil).mono ?_
      rintro e w3 ⟨g, A', cp', rfl, p3, b3⟩
      have b03 := b02.trans (b3.mono b02.size)
      have v3 := v2.below b3
      clear b02 b3 v2 hnil m1
      go_wp2_with fail
      refine (transactions_any g 0 n n K A' cp' w3 (Nat.le_refl _) (by omega) p3).mono ?_
      rintro e w4 ⟨ag, np, cg, s, m, rfl, pr, cut, b4⟩
      have b04 := b03.trans (b4.mono b03.size)
      have v4 := v3.below b4
      have p4 := p3.below b4
      clear b03 b4 v3 p3
      go_wp2_with fail
      have hn2 : n ≤ 65536 := by omega
      clear hn
      go_loopw [5, 6, 7, 8] (fun q i _ _ wr => ∃ ip : Nat, ip ≤ np ∧ i = .int .i64 ip ∧ q = .int .i64 (s ip) ∧ Below w4.heap.size w4 wr) (fun _ i _ _ _ => np - (intOf i).toNat)
      case atStart => exact ⟨0, Nat.zero_le _, rfl, by rw [cut.zero]; rfl, Below.refl _ _⟩
      case round =>
        obtain ⟨ip, hip, rfl, rfl, hb⟩ := hrel
        by_cases h1 : ip < np
        · obtain ⟨gg, rfl, hcell⟩ := pr.resolve_left (by omega)
          have f := hcell ip h1
          have top := cut.top h1
          have up := cut.up ip h1
          obtain ⟨l, hl⟩ : ∃ l, l = s (ip + 1) - s ip := ⟨_, rfl⟩
          obtain ⟨o, ho⟩ : ∃ o, o = 0 + s ip * 3 := ⟨_, rfl⟩
          rw [← hl, ← ho] at f
          have f1 := (hb.cell (cell_block f)).trans f
          have HLO : Hid (s (ip + 1) = s ip + l ∧ o = s ip * 3) := ⟨by omega, by omega⟩
          have hl1 : 0 < l := by omega
          have hl2 : s ip + l ≤ n := by omega
          have hl0 : ((l : Int) == 0) = false := by simp; omega
          obtain ⟨si, hsi⟩ : ∃ x, x = s ip := ⟨_, rfl⟩
          rw [← hsi] at hl2 HLO ⊢
          have HSI : Hid (si = s ip) := hsi
          have hnp : np ≤ 2 := by rcases cut.many with ⟨_, h0⟩ | ⟨_, h1, _⟩ | ⟨_, _, h2, _⟩ <;> omega
          clear f hcell top up ho hl hsi
          go_wp2
          obtain ⟨wo, hwo⟩ : ∃ x : World, x = wr := ⟨_, rfl⟩
          rw [← hwo] at hb ⊢
          clear hwo f1
          go_loopw [5, 8] (fun q i wr => ∃ j kk : Nat, j ≤ l ∧ i = .int .i64 j ∧ q = .int .i64 kk ∧ kk = si + j ∧ Below w4.heap.size w4 wr) (fun _ i _ => l - (intOf i).toNat)
          case atStart => exact ⟨0, si, Nat.zero_le _, rfl, rfl, rfl, hb⟩
          case round =>
            clear hb
            obtain ⟨j, kk, hj, rfl, rfl, hkk, hb⟩ := hrel
            by_cases h2 : j < l
            · have vr := v4.below hb
              have pr2 := p4.below hb
              have hk1 : kk < n := by omega
              obtain ⟨b, off, rfl, hc⟩ := vr.resolve_left (by omega)
              obtain ⟨g1, g2, g3, g4⟩ := hc kk hk1
              obtain ⟨q1, q2, q3, q4⟩ := pr2.get (o := o + j * 3) hk1 (by have := HLO.out.2; omega)
              have hLk := hL2 kk hk1
              have HK : Hid (kk = si + j) := hkk
              clear hkk hc vr pr2
              go_wp2
              have q4d := q4.drew
              have g4d := g4.drew
              go_region_held3 (fun w' => (w'.cell? ⟨g, o + j * 3, none⟩ = some (.string (K.S kk)) ∧ w'.cell? ⟨g, o + j * 3 + 1, none⟩ = some (.slice (A' kk) (K.L kk) (cp' kk)) ∧ w'.cell? ⟨g, o + j * 3 + 2, none⟩ = some (.bool (K.C kk))) ∧ w'.cell? ⟨b, off + kk * 3, none⟩ = some (.string (K.S kk)) ∧ w'.cell? ⟨b, off + kk * 3 + 1, none⟩ = some (.slice (A kk) (K.L kk) (cp kk)) ∧ w'.cell? ⟨b, off + kk * 3 + 2, none⟩ = some (.bool (K.C kk)))
                (first | (go_keep; done) | exact ⟨⟨keepB hb5 q1, keepB hb5 q2, keepB hb5 q3⟩, keepB hb5 g1, keepB hb5 g2, keepB hb5 g3⟩)
                ((go_at_call 9; refine (zzSame_any _ _ _ _ _ _ _ _ _ _ _ hLk q4d g4d).mono ?_; rintro e w5 ⟨rfl, hb5⟩))
              go_wp2
              go_roundw
              case rel =>
                exact ⟨j + 1, kk + 1, by omega, by go_num, by go_num, by have := HK.out; omega, belowB hb hb5⟩
              case measure => simp [intOf]; omega
            · obtain rfl : j = l := by omega
              have HK : Hid (kk = si + j) := hkk
              clear hkk
              go_wp2
              go_roundw
              case rel => exact ⟨ip + 1, by omega, by go_num, by rw [HLO.out.1, HK.out], hb⟩
              case measure => simp [intOf]; omega
        · obtain rfl : ip = np := by omega
          rw [cut.last]
          have vr := v4.below hb
          have pl := p4.below hb
          have prr := pr.below hb
          have bb := b04.trans (hb.mono b04.size)
          clear pr v4 p4 hL2 b04 hb
          go_wp2
          obtain ⟨wo, hwo⟩ : ∃ x : World, x = wr := ⟨_, rfl⟩
          rw [← hwo] at vr pl prr bb ⊢
          clear hwo
          go_loop [9, 10] (fun h i => ∃ q : Nat, q ≤ n ∧ i = .int .i64 q ∧ h = .bool (hasO K.C q)) (fun _ i => n - (intOf i).toNat)
          case atStart => exact ⟨0, Nat.zero_le _, rfl, rfl⟩
          case round =>
            obtain ⟨q, hq, rfl, rfl⟩ := hrel
            by_cases h2 : q < n
            · obtain ⟨b, off, rfl, hc⟩ := vr.resolve_left (by omega)
              obtain ⟨_, _, g3, _⟩ := hc q h2
              obtain ⟨O, hO⟩ : ∃ O, O = hasO K.C q := ⟨_, rfl⟩
              have HO : Hid (hasO K.C (q + 1) = (O || !K.C q)) := by rw [hO]; rfl
              rw [← hO]
              clear hc hO vr pl prr cut
              cases hC : K.C q with
              | true =>
                rw [hC] at g3 HO
                clear hC
                go_wp2
                go_round
                case rel => exact ⟨q + 1, by omega, by go_num, by rw [HO.out]; simp⟩
                case measure => simp [intOf]; omega
              | false =>
                rw [hC] at g3 HO
                clear hC
                go_wp2
                go_round
                case rel => exact ⟨q + 1, by omega, by go_num, by rw [HO.out]; simp⟩
                case measure => simp [intOf]; omega
            · obtain rfl : q = n := by omega
              rcases cut.many with ⟨rfl, rfl⟩ | ⟨hn0, rfl, hm⟩ | ⟨hm0, hm1, rfl, hs1⟩
              · clear vr pl prr cut
                go_wp2
                go_ret
                exact ⟨rfl, bb⟩
              · obtain ⟨b, off, rfl, hc⟩ := vr.resolve_left (by omega)
                obtain ⟨_, _, g3, _⟩ := hc 0 hn0
                rcases hm with rfl | rfl
                · have hC0 := cut.stop hn0
                  rw [hC0] at g3
                  clear hc vr pl prr cut hC0
                  go_wp2
                  go_ret
                  exact ⟨rfl, bb⟩
                · have hC0 := cut.lead 0 hn0
                  have hO := hasO_all m cut.lead
                  rw [hC0] at g3
                  rw [hO]
                  clear hc vr pl prr cut hC0 hO
                  go_wp2
                  go_ret
                  exact ⟨rfl, bb⟩
              · obtain ⟨b, off, rfl, hc⟩ := vr.resolve_left (by omega)
                obtain ⟨_, _, g3, _⟩ := hc 0 (by omega)
                have hC0 := cut.lead 0 hm0
                have hO := hasO_some (cut.stop hm1) q hm1
                rw [hC0] at g3
                rw [hO]
                obtain ⟨gg, rfl, hcell⟩ := prr.resolve_left (by omega)
                have f0 := hcell 0 (by omega)
                have f1 := hcell 1 (by omega)
                have z0 := cut.zero
                have z2 : s (1 + 1) = q := cut.last
                have hs0 : s (0 + 1) = m := hs1
                rw [z0, hs0, Nat.zero_mul, Nat.add_zero, Nat.sub_zero, Nat.sub_zero] at f0
                rw [z2, hs1, Nat.zero_add] at f1
                have hqm : (0 : Int) < ((q - m : Nat) : Int) := by omega
                clear z2 hs0
                go_wp2
                have hbl : Below wo.heap.size wo wo := Below.refl _ _
                go_loopw [12] (fun i wr => ∃ j : Nat, j ≤ m ∧ i = .int .i64 j ∧ Below wo.heap.size wo wr) (fun i _ => m - (intOf i).toNat)
                case atStart => exact ⟨0, Nat.zero_le _, rfl, hbl⟩
                case round =>
                  obtain ⟨j, hj, rfl, hb⟩ := hrel
                  have e0 := (hb.cell (cell_block f0)).trans f0
                  have e1 := (hb.cell (cell_block f1)).trans f1
                  by_cases h3 : j < m
                  · obtain ⟨q1, q2, q3, _⟩ := (pl.below hb).get (o := j * 3) (i := j) (by omega) (by omega)
                    have hCj := cut.lead j h3
                    rw [hCj] at q3
                    clear hcell hc vr pl prr cut f0 f1 z0 hs1 hC0 hO hCj
                    go_wp2_with fail
                    refine (committedFirst_any _ _ _ _ _ _).mono ?_
                    rintro e w5 ⟨rfl, rfl⟩
                    go_wp2
                    go_roundw
                    case rel => exact ⟨j + 1, by omega, by go_num, hb.alloc hb.size _⟩
                    case measure => simp [intOf]; omega
                  · obtain rfl : j = m := by omega
                    obtain ⟨q1, q2, q3, _⟩ := (pl.below hb).get (o := j * 3) (i := j) (by omega) (by omega)
                    have hCj := cut.stop hm1
                    rw [hCj] at q3
                    have bb2 := bb.trans (hb.mono bb.size)
                    clear hcell hc vr pl prr cut f0 f1 z0 hs1 hC0 hO hCj
                    go_wp2_with fail
                    refine (committedFirst_any _ _ _ _ _ _).mono ?_
                    rintro e w5 ⟨rfl, rfl⟩
                    go_wp2
                    go_ret
                    exact ⟨rfl, bb2.alloc bb2.size _⟩

end Go.Proofs.Qxb6632535a
