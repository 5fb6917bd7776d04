/-
  SEAT b6632535a: FnTransactionsEachPartIsOneTransaction: the walk out of the contracts.
-/
import Derived.Test.Qxb6632535aBytes11
import Derived.Test.Qxb6632535aCuts
namespace Go.Proofs.Qxb6632535a
open Go.RowKit

/-- the content from statement d on -/
def Con.shift (K : Con) (d : Nat) : Con := ⟨fun i => K.S (d + i), fun i => K.L (d + i), fun i => K.C (d + i), fun i => K.X (d + i), fun i => K.Y (d + i), fun i => K.Z (d + i)⟩

theorem SV.part {w : World} {b off n : Nat} {K : Con} {A : Nat → Option Addr} {cp : Nat → Nat} (h : SV w (some ⟨b, off, none⟩) n K A cp) {d l o : Nat} (hd : d + l ≤ n) (ho : o = off + d * 3) :
    SV w (some ⟨b, o, none⟩) l (K.shift d) (fun i => A (d + i)) (fun i => cp (d + i)) := by
  by_cases hl : l = 0
  · exact .inl hl
  · refine .inr ⟨b, o, rfl, fun i hi => ?_⟩
    exact h.get (i := d + i) (by omega) (by omega)

theorem cut_part {n : Nat} {C : Nat → Bool} {np : Nat} {s : Nat → Nat} {m ip np' : Nat} {s' : Nat → Nat} {m' d l : Nat} (h : Cut n C np s m) (hi : ip < np) (hd : d = s ip) (hl : s (ip + 1) = d + l) (h' : Cut l (fun i => C (d + i)) np' s' m') : np' = 1 := by
  have hup := h.up ip hi
  rcases h'.many with ⟨h0, _⟩ | ⟨_, h1, _⟩ | ⟨hm0, hm1, _, _⟩
  · omega
  · exact h1
  · exfalso
    have t1 := h'.lead 0 hm0
    have t2 := h'.stop hm1
    simp only [Nat.add_zero] at t1
    rcases h.many with ⟨_, h0⟩ | ⟨hn, h1, hm⟩ | ⟨k0, k1, h2, k2⟩
    · omega
    · subst h1
      obtain rfl : ip = 0 := by omega
      have z := h.zero
      have e := h.last
      have hdd : d = 0 := by omega
      have hln : s (0 + 1) = n := e
      subst hdd
      rcases hm with hm | hm
      · have := h.stop (by omega)
        rw [hm] at this
        rw [this] at t1
        cases t1
      · have := h.lead (0 + m') (by omega)
        rw [this] at t2
        cases t2
    · subst h2
      match ip, hi with
      | 0, _ =>
        have z := h.zero
        have hdd : d = 0 := by omega
        have hln : s (0 + 1) = m := k2
        subst hdd
        have := h.lead (0 + m') (by omega)
        rw [this] at t2
        cases t2
      | 1, _ =>
        have hdd : d = m := by omega
        subst hdd
        have := h.stop k1
        rw [this] at t1
        cases t1

set_option maxHeartbeats 1000000 in
set_option maxRecDepth 100000 in
theorem each_walk (a : Option Addr) (n c : Nat) (K : Con) (A : Nat → Option Addr) (cp : Nat → Nat) (w : World) (m1 : n ≤ 9223372036854775807) (v : SV w a n K A cp) (hL : ∀ i, i < n → K.L i ≤ 9223372036854775807) (hnil : ∀ i, i < n → A i = none → K.L i = 0) :
    Calls Try.prog 4 #[.slice a n c] w fun e w' => e = .returned (.bool true) ∧ Below w.heap.size w w' := by
  go_enter Try.func4, Try.ntmps4
  go_wp2_with fail
  refine (zzBytes11_any a n c K A cp w m1 v hL).mono ?_
  rintro e w1 ⟨r, rfl, hp, b1⟩
  clear hp
  cases r with
  | false =>
    go_wp2
    go_ret
    exact ⟨rfl, b1⟩
  | true =>
    have v1 := v.below b1
    by_cases hn : 65536 < ((n : Nat) : Int)
    · go_wp2
      go_ret
      exact ⟨rfl, b1⟩
    go_wp2_with fail
    refine (zzInBound_any a n c K A cp w1 m1 v1 hL).mono ?_
    rintro e w2 ⟨r, rfl, hp, b2⟩
    have b02 := b1.trans (b2.mono b1.size)
    have v2 := v1.below b2
    clear b1 b2 v1 v
    cases r with
    | false =>
      go_wp2
      go_ret
      exact ⟨rfl, b02⟩
    | true =>
      have hL2 := hp rfl
      clear hp hL
      go_wp2_with fail
      refine (zzBuild_any a n c K A cp w2 (by omega) v2 hL2 hnil).mono ?_
      rintro e w3 ⟨g, A', cp', rfl, p3, b3⟩
      have b03 := b02.trans (b3.mono b02.size)
      have v3 := v2.below b3
      clear b02 b3 v2 hnil m1
      go_wp2_with fail
      refine (transactions_any g 0 n n K A' cp' w3 (Nat.le_refl _) (by omega) p3).mono ?_
      rintro e w4 ⟨ag, np, cg, s, m, rfl, pr, cut, b4⟩
      have b04 := b03.trans (b4.mono b03.size)
      have v4 := v3.below b4
      have p4 := p3.below b4
      clear b03 b4 v3 p3
      go_wp2_with fail
      have hn2 : n ≤ 65536 := by omega
      clear hn
      go_loopw [5, 6, 7, 8, 9] (fun q i _ _ _ wr => ∃ ip : Nat, ip ≤ np ∧ i = .int .i64 ip ∧ q = .int .i64 (s ip) ∧ Below w4.heap.size w4 wr) (fun _ i _ _ _ _ => np - (intOf i).toNat)
      case atStart => exact ⟨0, Nat.zero_le _, rfl, by rw [cut.zero]; rfl, Below.refl _ _⟩
      case round =>
        obtain ⟨ip, hip, rfl, rfl, hb⟩ := hrel
        by_cases h1 : ip < np
        · obtain ⟨gg, rfl, hcell⟩ := pr.resolve_left (by omega)
          have f := hcell ip h1
          have top := cut.top h1
          have up := cut.up ip h1
          obtain ⟨l, hl⟩ : ∃ l, l = s (ip + 1) - s ip := ⟨_, rfl⟩
          obtain ⟨o, ho⟩ : ∃ o, o = 0 + s ip * 3 := ⟨_, rfl⟩
          obtain ⟨cc, hcc⟩ : ∃ cc, cc = n - s ip := ⟨_, rfl⟩
          rw [← hl, ← ho, ← hcc] at f
          have f1 := (hb.cell (cell_block f)).trans f
          have hl1 : 0 < l := by omega
          have hl2 : s ip + l ≤ n := by omega
          have hl3 : l ≤ cc ∧ cc ≤ 65536 := by omega
          have hl0 : ((l : Int) == 0) = false := by simp; omega
          obtain ⟨si, hsi⟩ : ∃ x, x = s ip := ⟨_, rfl⟩
          have HLO : Hid (s (ip + 1) = si + l ∧ o = si * 3) := ⟨by omega, by omega⟩
          rw [← hsi] at hl2 ⊢
          have HSI : Hid (si = s ip) := hsi
          have hnp : np ≤ 2 := by rcases cut.many with ⟨_, h0⟩ | ⟨_, h1, _⟩ | ⟨_, _, h2, _⟩ <;> omega
          have vpart := (p4.below hb).part (o := o) hl2 (by have := HLO.out.2; omega)
          clear f hcell top up ho hl hsi hcc
          go_wp2_with fail
          refine (transactions_any g o l cc (K.shift si) _ _ wr hl3.1 (by omega) vpart).mono ?_
          rintro e w5 ⟨ag', np', cg', s', m', rfl, pr', cut', b5⟩
          have hnp1 : np' = 1 := cut_part cut h1 HSI.out HLO.out.1 cut'
          subst hnp1
          obtain ⟨g', rfl, hcell'⟩ := pr'.resolve_left (by omega)
          have f0 := hcell' 0 (by omega)
          have hz0 := cut'.zero
          have hz1 : s' (0 + 1) = l := cut'.last
          rw [hz0, hz1, Nat.zero_mul, Nat.add_zero, Nat.sub_zero, Nat.sub_zero] at f0
          have hb5 := hb.trans (b5.mono hb.size)
          clear hcell' pr' hz0 hz1 vpart cut' b5 hb f1
          go_wp2
          go_loopw [5, 9] (fun q i wr => ∃ j kk : Nat, j ≤ l ∧ i = .int .i64 j ∧ q = .int .i64 kk ∧ kk = si + j ∧ Below w5.heap.size w5 wr) (fun _ i _ => l - (intOf i).toNat)
          case atStart => exact ⟨0, si, Nat.zero_le _, rfl, rfl, rfl, Below.refl _ _⟩
          case round =>
            obtain ⟨j, kk, hj, rfl, rfl, hkk, hb⟩ := hrel
            have hb45 := hb5.trans (hb.mono hb5.size)
            by_cases h2 : j < l
            · have vr := v4.below hb45
              have pr2 := p4.below hb45
              have hk1 : kk < n := by omega
              obtain ⟨b, off, rfl, hc⟩ := vr.resolve_left (by omega)
              obtain ⟨g1, g2, g3, g4⟩ := hc kk hk1
              obtain ⟨q1, q2, q3, q4⟩ := pr2.get (o := o + j * 3) hk1 (by have := HLO.out.2; omega)
              have q0 := (hb.cell (cell_block f0)).trans f0
              have hLk := hL2 kk hk1
              have HK : Hid (kk = si + j) := hkk
              clear hkk hc vr pr2
              go_wp2
              have q4d := q4.drew
              have g4d := g4.drew
              go_region_held3 (fun w' => (w'.cell? ⟨g, o + j * 3, none⟩ = some (.string (K.S kk)) ∧ w'.cell? ⟨g, o + j * 3 + 1, none⟩ = some (.slice (A' kk) (K.L kk) (cp' kk)) ∧ w'.cell? ⟨g, o + j * 3 + 2, none⟩ = some (.bool (K.C kk))) ∧ w'.cell? ⟨b, off + kk * 3, none⟩ = some (.string (K.S kk)) ∧ w'.cell? ⟨b, off + kk * 3 + 1, none⟩ = some (.slice (A kk) (K.L kk) (cp kk)) ∧ w'.cell? ⟨b, off + kk * 3 + 2, none⟩ = some (.bool (K.C kk)))
                (first | (go_keep; done) | exact ⟨⟨keepB hc6 q1, keepB hc6 q2, keepB hc6 q3⟩, keepB hc6 g1, keepB hc6 g2, keepB hc6 g3⟩)
                ((go_at_call 9; refine (zzSame_any _ _ _ _ _ _ _ _ _ _ _ hLk q4d g4d).mono ?_; rintro e w6 ⟨rfl, hc6⟩))
              have r0 := keepB hc6 q0
              have r1 := keepB hc6 q1
              have r2 := keepB hc6 q2
              have r3 := keepB hc6 q3
              have s1 := keepB hc6 g1
              have s2 := keepB hc6 g2
              have s3 := keepB hc6 g3
              have r4d := (q4d.below hc6).drew
              have s4d := (g4d.below hc6).drew
              have hb6 := belowB hb hc6
              clear q0 q1 q2 q3 q4 q4d g1 g2 g3 g4 g4d hc6 hb hb45
              go_wp2
              go_region_held3 (fun w' => w'.cell? ⟨g', 0, none⟩ = some (.slice (some ⟨g, o, none⟩) l cc) ∧ (w'.cell? ⟨g, o + j * 3, none⟩ = some (.string (K.S kk)) ∧ w'.cell? ⟨g, o + j * 3 + 1, none⟩ = some (.slice (A' kk) (K.L kk) (cp' kk)) ∧ w'.cell? ⟨g, o + j * 3 + 2, none⟩ = some (.bool (K.C kk))) ∧ w'.cell? ⟨b, off + kk * 3, none⟩ = some (.string (K.S kk)) ∧ w'.cell? ⟨b, off + kk * 3 + 1, none⟩ = some (.slice (A kk) (K.L kk) (cp kk)) ∧ w'.cell? ⟨b, off + kk * 3 + 2, none⟩ = some (.bool (K.C kk)))
                (first | (go_keep; done) | exact ⟨keepB hc7 r0, ⟨keepB hc7 r1, keepB hc7 r2, keepB hc7 r3⟩, keepB hc7 s1, keepB hc7 s2, keepB hc7 s3⟩)
                ((go_at_call 9; refine (zzSame_any _ _ _ _ _ _ _ _ _ _ _ hLk r4d s4d).mono ?_; rintro e w7 ⟨rfl, hc7⟩))
              go_wp2
              go_roundw
              case rel => exact ⟨j + 1, kk + 1, by omega, by go_num, by go_num, by have := HK.out; omega, belowB hb6 hc7⟩
              case measure => simp [intOf]; omega
            · obtain rfl : j = l := by omega
              have HK : Hid (kk = si + j) := hkk
              clear hkk
              go_wp2
              go_roundw
              case rel => exact ⟨ip + 1, by omega, by go_num, by rw [HLO.out.1, HK.out], hb45⟩
              case measure => simp [intOf]; omega
        · obtain rfl : ip = np := by omega
          rw [cut.last]
          have bb := b04.trans (hb.mono b04.size)
          clear pr v4 p4 hL2 b04 hb
          go_wp2
          go_ret
          exact ⟨rfl, bb⟩

end Go.Proofs.Qxb6632535a
