/-
  SEAT b6632426a: encodeLabels, bytesCmp and the byte guard of the encoding law by their contracts.
-/
import Derived.Test.Qxb6632426aEsc
import Derived.Test.Qxb6632426aPrefix
namespace Go.Proofs.Qxb6632426a
open Go.RowKit Go.Proofs.Qxb6632426a.Plain

/-- the bytes of the first k labels -/
def tot (N V : Nat → ByteArray) : Nat → Nat
  | 0 => 0
  | k + 1 => tot N V k + (N k).size + (V k).size
theorem tot_mono (N V : Nat → ByteArray) {j k : Nat} (h : j ≤ k) : tot N V j ≤ tot N V k := by
  induction k with
  | zero => obtain rfl : j = 0 := by omega
            exact Nat.le_refl _
  | succ k ih =>
    by_cases e : j = k + 1
    · rw [e]; exact Nat.le_refl _
    · have := ih (by omega)
      simp only [tot]
      omega
theorem lab_succ (N V : Nat → ByteArray) (k : Nat) : lab (k + 1) N V = lab k N V ++ [(bs N k, bs V k)] := by
  simp [lab, labs, List.range_succ]
theorem encL_len (N V : Nat → ByteArray) (k : Nat) : (encL (lab k N V)).length ≤ 2 * tot N V k + 4 * k := by
  induction k with
  | zero => simp [lab, labs, encL]
  | succ k ih =>
    have h1 := escS_len (bs N k)
    have h2 := escS_len (bs V k)
    have h3 : (bs N k).length = (N k).size := by simp [bs]
    have h4 : (bs V k).length = (V k).size := by simp [bs]
    rw [lab_succ, encL_snoc, List.length_append, List.length_append]
    simp only [tot]
    omega

set_option maxHeartbeats 2000000 in
theorem encodeLabels_any (a : Option Addr) (n c : Nat) (N V : Nat → ByteArray) (w : World) (h : LV w a n N V) (hlen : tot N V n + n ≤ 1048576) :
    Calls Try.prog 9 #[.slice a n c] w fun e w' => EscPost w w.heap.size (encL (lab n N V)) e w' := by
  go_enter Try.func9, Try.ntmps9
  go_wp2
  obtain ⟨B, hB⟩ : ∃ B : Nat, B = w.heap.size := ⟨_, rfl⟩
  have HB : Hid (B = w.heap.size) := hB
  clear hB
  go_loopw [3, 4] (fun d i wr => ∃ k : Nat, k ≤ n ∧ i = .int .i64 k ∧ OB wr B d (encL (lab k N V)) ∧ Below B w wr) (fun _ i _ => n - (intOf i).toNat)
  case atStart => exact ⟨0, Nat.zero_le _, rfl, ⟨rfl, .inl ⟨rfl, rfl⟩⟩, Below.refl _ _⟩
  case round =>
    obtain ⟨k, hk, rfl, ho, hbel⟩ := hrel
    by_cases h1 : k < n
    · obtain ⟨b, off, rfl, hc⟩ := h.resolve_left (by omega)
      obtain ⟨g1, g2⟩ := hc k h1
      have p1 : b < B := by rw [HB.out]; exact cell_block g1
      have hs := hbel.size
      have HS : Hid (B ≤ wr.heap.size) := by show _ ≤ _; rw [HB.out]; exact hs
      have hl := encL_len N V k
      have ht := tot_mono N V (show k + 1 ≤ n from h1)
      simp only [tot] at ht
      have hl1 := escS_len (bs N k)
      have h3 : (bs N k).length = (N k).size := by simp [bs]
      have HL : Hid ((encL (lab k N V)).length + 2 * (N k).size + 2 ≤ 1073741824 ∧ (encL (lab k N V) ++ escS (N k).data.toList).length + 2 * (V k).size + 2 ≤ 1073741824) := by
        refine ⟨by omega, ?_⟩
        rw [List.length_append]
        have : (escS (N k).data.toList).length ≤ 2 * (N k).size + 2 := by rw [← h3]; exact hl1
        omega
      have r1 : wr.cell? ⟨b, off + k * 2, none⟩ = some (.string (N k)) := (hbel.cell p1).trans g1
      have r2 : wr.cell? ⟨b, off + k * 2 + 1, none⟩ = some (.string (V k)) := (hbel.cell p1).trans g2
      clear hc h g1 g2 hl ht hl1 h3 hs
      go_wp2_with fail
      refine (appendEsc_any _ _ _ B _ ho HS.out HL.out.1).mono ?_
      rintro e w1 ⟨v1, rfl, ho1, hb1⟩
      have r3 : w1.cell? ⟨b, off + k * 2 + 1, none⟩ = some (.string (V k)) := (hb1.cell p1).trans r2
      have HS1 : Hid (B ≤ w1.heap.size) := Nat.le_trans HS.out hb1.size
      have hbel1 := hbel.trans hb1
      clear ho HS r1 r2 hbel hb1
      go_wp2_with fail
      refine (appendEsc_any _ _ _ B _ ho1 HS1.out HL.out.2).mono ?_
      rintro e w2 ⟨v2, rfl, ho2, hb2⟩
      have hbel2 := hbel1.trans hb2
      clear ho1 HS1 r3 hbel1 hb2
      go_wp2
      go_roundw
      case rel => exact ⟨k + 1, by omega, by go_num, by rw [lab_succ, encL_snoc]; exact ho2, hbel2⟩
      case measure => simp [intOf]; omega
    · obtain rfl : k = n := by omega
      go_wp2
      go_ret
      exact ⟨_, rfl, by rw [← HB.out]; exact ho, by rw [← HB.out]; exact hbel⟩

/-- a row of n byte values -/
def BV (w : World) (a : Option Addr) (n : Nat) (X : Nat → Nat) : Prop := n = 0 ∨ ∃ g, a = some ⟨g, 0, none⟩ ∧ ∀ i, i < n → w.cell? ⟨g, i, none⟩ = some (.int .u8 (X i : Int))

theorem OB.view {w : World} {base : Nat} {v : Value} {l : Bs} (h : OB w base v l) : ∃ a c, v = .slice a l.length c ∧ BV w a l.length (fun i => (l.getD i 0).toNat) := by
  obtain ⟨hl, ⟨rfl, hn⟩ | ⟨g, cap, cur, rfl, hg, hrest⟩⟩ := h
  · exact ⟨none, 0, by rw [hn], .inl hn⟩
  · refine ⟨_, _, rfl, .inr ⟨g, rfl, fun i hi => ?_⟩⟩
    have h2 : w.ownsRow base 5 1 (.slice (some ⟨g, 0, none⟩) l.length cap) l.length (l.map u8v) := ⟨hl, .inr ⟨g, cap, cur, rfl, hg, hrest⟩⟩
    rw [h2.cellAt i (by omega)]
    simp [u8v, hi]

theorem cbF_step0 {n m : Nat} {X Y : Nat → Nat} {k : Nat} (h1 : k < n) (h2 : k < m) (c1 : X k < Y k) : cbF n m X Y (min n m - k) k = -1 := by
  obtain ⟨d, hd⟩ : ∃ d, min n m - k = d + 1 := ⟨min n m - k - 1, by omega⟩
  rw [hd, cbF, if_pos c1]
theorem cbF_step1 {n m : Nat} {X Y : Nat → Nat} {k : Nat} (h1 : k < n) (h2 : k < m) (c1 : Y k < X k) : cbF n m X Y (min n m - k) k = 1 := by
  obtain ⟨d, hd⟩ : ∃ d, min n m - k = d + 1 := ⟨min n m - k - 1, by omega⟩
  rw [hd, cbF, if_neg (by omega), if_pos c1]
theorem cbF_step2 {n m : Nat} {X Y : Nat → Nat} {k : Nat} (h1 : k < n) (h2 : k < m) (c1 : ¬ X k < Y k) (c2 : ¬ Y k < X k) : cbF n m X Y (min n m - k) k = cbF n m X Y (min n m - (k + 1)) (k + 1) := by
  obtain ⟨d, hd⟩ : ∃ d, min n m - k = d + 1 := ⟨min n m - k - 1, by omega⟩
  rw [hd, cbF, if_neg c1, if_neg c2, show min n m - (k + 1) = d by omega]

set_option maxHeartbeats 1000000 in
theorem bytesCmp_any (a a' : Option Addr) (n m c c' : Nat) (X Y : Nat → Nat) (w : World) (hn : n ≤ 1073741824) (hm : m ≤ 1073741824) (h : BV w a n X) (h' : BV w a' m Y) :
    Calls Try.prog 8 #[.slice a n c, .slice a' m c'] w fun e w' => e = .returned (.int .i64 (cbF n m X Y (min n m) 0)) ∧ ∃ q, w' = w.drewN q := by
  go_enter Try.func8, Try.ntmps8
  go_wp2
  go_loopw [5] (fun i wr => ∃ k q : Nat, k ≤ n ∧ k ≤ m ∧ i = .int .i64 k ∧ wr = w.drewN q ∧ cbF n m X Y (min n m) 0 = cbF n m X Y (min n m - k) k) (fun i _ => n - (intOf i).toNat)
  case atStart => exact ⟨0, 0, Nat.zero_le _, Nat.zero_le _, rfl, rfl, rfl⟩
  case round =>
    obtain ⟨k, q, hkn, hkm, rfl, rfl, heq⟩ := hrel
    have HE : Hid (cbF n m X Y (min n m) 0 = cbF n m X Y (min n m - k) k) := heq
    clear heq
    by_cases h1 : k < n
    · by_cases h2 : k < m
      · obtain ⟨g, rfl, hc⟩ := h.resolve_left (by omega)
        obtain ⟨g', rfl, hc'⟩ := h'.resolve_left (by omega)
        have r1 := hc k h1
        have r2 := hc' k h2
        clear hc hc' h h'
        by_cases c1 : X k < Y k
        · have HS : Hid (cbF n m X Y (min n m) 0 = -1) := HE.out.trans (cbF_step0 h1 h2 c1)
          clear HE
          have c1' : (X k : Int) < (Y k : Int) := by omega
          clear c1
          go_wp2
          go_quiet (fail)
          go_wp2
          go_ret
          exact ⟨ret_int HS.out.symm, q + nq, by simp⟩
        · by_cases c2 : Y k < X k
          · have HS : Hid (cbF n m X Y (min n m) 0 = 1) := HE.out.trans (cbF_step1 h1 h2 c2)
            clear HE
            have c1' : ¬ (X k : Int) < (Y k : Int) := by omega
            have c2' : (Y k : Int) < (X k : Int) := by omega
            clear c1 c2
            go_wp2
            go_quiet (fail)
            go_wp2
            go_quiet (fail)
            go_wp2
            go_ret
            exact ⟨ret_int HS.out.symm, _, by simp; rfl⟩
          · have HS : Hid (cbF n m X Y (min n m) 0 = cbF n m X Y (min n m - (k + 1)) (k + 1)) := HE.out.trans (cbF_step2 h1 h2 c1 c2)
            clear HE
            have c1' : ¬ (X k : Int) < (Y k : Int) := by omega
            have c2' : ¬ (Y k : Int) < (X k : Int) := by omega
            clear c1 c2
            go_wp2
            go_quiet (fail)
            go_wp2
            go_quiet (fail)
            go_wp2
            go_roundw
            case rel => exact ⟨k + 1, _, by omega, by omega, by go_num, rfl, HS.out⟩
            case measure => simp [intOf]; omega
      · have hkm2 : k = m := by omega
        subst hkm2
        have HS : Hid (cbF n k X Y (min n k) 0 = 1) := by
          show _ = _
          rw [HE.out, show min n k - k = 0 by omega, cbF, if_neg (by omega), if_pos h1]
        clear HE h h'
        go_wp2
        go_ret
        exact ⟨ret_int HS.out.symm, q, rfl⟩
    · have hkn2 : k = n := by omega
      subst hkn2
      by_cases h2 : k < m
      · have HS : Hid (cbF k m X Y (min k m) 0 = -1) := by
          show _ = _
          rw [HE.out, show min k m - k = 0 by omega, cbF, if_pos h2]
        clear HE h h'
        go_wp2
        go_ret
        exact ⟨ret_int HS.out.symm, q, rfl⟩
      · have HS : Hid (cbF k m X Y (min k m) 0 = 0) := by
          show _ = _
          rw [HE.out, show min k m - k = 0 by omega, cbF, if_neg h2, if_neg (by omega)]
        clear HE h h'
        go_wp2
        go_ret
        exact ⟨ret_int HS.out.symm, q, rfl⟩

set_option maxHeartbeats 4000000 in
set_option maxRecDepth 100000 in
theorem zzBytes5_any (a1 a2 : Option Addr) (n1 n2 k1 k2 : Nat) (N1 V1 N2 V2 : Nat → ByteArray) (w : World) (m1 : n1 ≤ 9223372036854775807) (m2 : n2 ≤ 9223372036854775807) (q1 : LV w a1 n1 N1 V1) (q2 : LV w a2 n2 N2 V2) :
    Calls Try.prog 5 #[.slice a1 n1 k1, .slice a2 n2 k2] w fun e w' => GuardPost w (tot N1 V1 n1 + n1 ≤ 1048576 ∧ tot N2 V2 n2 + n2 ≤ 1048576) e w' := by
  by_cases d0 : 1048576 < ((n1 : Nat) : Int)
  · go_enter Try.func5, Try.ntmps5
    go_wp2
    go_ret
    exact guard_no rfl rfl
  go_enter Try.func5, Try.ntmps5
  go_wp2
  go_loop [5, 6] (fun s i => ∃ k : Nat, k ≤ n1 ∧ i = .int .i64 k ∧ s = .int .i64 ((0 + n1 + tot N1 V1 k : Nat) : Int) ∧ 0 + n1 + tot N1 V1 k ≤ 1048576) (fun _ i => n1 - (intOf i).toNat)
  case atStart => exact ⟨0, Nat.zero_le _, rfl, by simp [tot], by simp only [tot]; omega⟩
  case round =>
    obtain ⟨k, hkn, rfl, rfl, t1⟩ := hrel
    by_cases h1 : k < n1
    · obtain ⟨b, off, rfl, hc⟩ := q1.resolve_left (by omega)
      obtain ⟨g1, g2⟩ := hc k h1
      clear hc q1
      have HT : Hid (tot N1 V1 (k + 1) = tot N1 V1 k + (N1 k).size + (V1 k).size) := rfl
      obtain ⟨T, hT⟩ : ∃ T, T = 0 + n1 + tot N1 V1 k := ⟨_, rfl⟩
      rw [← hT] at t1 ⊢
      have HTT : Hid (T = 0 + n1 + tot N1 V1 k) := hT
      clear hT
      by_cases c1 : (1048576 : Int) < ((N1 k).size : Int)
      · go_wp2
        go_ret
        exact guard_no rfl rfl
      · by_cases c2 : (1048576 : Int) < (T : Int) + ((N1 k).size : Int)
        · go_wp2
          go_ret
          exact guard_no rfl rfl
        · by_cases c3 : (1048576 : Int) < ((V1 k).size : Int)
          · go_wp2
            go_ret
            exact guard_no rfl rfl
          · by_cases c4 : (1048576 : Int) < (T : Int) + ((N1 k).size : Int) + ((V1 k).size : Int)
            · go_wp2
              go_ret
              exact guard_no rfl rfl
            · go_wp2
              go_round
              case rel => exact ⟨k + 1, by omega, by go_num, by rw [HT.out]; have := HTT.out; go_num, by rw [HT.out]; have := HTT.out; omega⟩
              case measure => simp [intOf]; omega
    · clear q1
      obtain rfl : k = n1 := by omega
      obtain ⟨T, hT⟩ : ∃ T, T = 0 + k + tot N1 V1 k := ⟨_, rfl⟩
      rw [← hT] at t1 ⊢
      have HT0 : Hid (T = 0 + k + tot N1 V1 k) := hT
      clear hT
      by_cases d1 : 1048576 < ((n2 : Nat) : Int)
      · go_wp2
        go_ret
        exact guard_no rfl rfl
      by_cases d2 : 1048576 < (T : Int) + ((n2 : Nat) : Int)
      · go_wp2
        go_ret
        exact guard_no rfl rfl
      go_wp2
      go_loop [5, 7] (fun s i => ∃ k : Nat, k ≤ n2 ∧ i = .int .i64 k ∧ s = .int .i64 ((T + n2 + tot N2 V2 k : Nat) : Int) ∧ T + n2 + tot N2 V2 k ≤ 1048576) (fun _ i => n2 - (intOf i).toNat)
      case atStart => exact ⟨0, Nat.zero_le _, rfl, by simp [tot], by simp only [tot]; omega⟩
      case round =>
        obtain ⟨k, hkn, rfl, rfl, t1⟩ := hrel
        by_cases h1 : k < n2
        · obtain ⟨b, off, rfl, hc⟩ := q2.resolve_left (by omega)
          obtain ⟨g1, g2⟩ := hc k h1
          clear hc q2
          have HT : Hid (tot N2 V2 (k + 1) = tot N2 V2 k + (N2 k).size + (V2 k).size) := rfl
          obtain ⟨T2, hT⟩ : ∃ T2, T2 = T + n2 + tot N2 V2 k := ⟨_, rfl⟩
          rw [← hT] at t1 ⊢
          have HTT : Hid (T2 = T + n2 + tot N2 V2 k) := hT
          clear hT
          by_cases c1 : (1048576 : Int) < ((N2 k).size : Int)
          · go_wp2
            go_ret
            exact guard_no rfl rfl
          · by_cases c2 : (1048576 : Int) < (T2 : Int) + ((N2 k).size : Int)
            · go_wp2
              go_ret
              exact guard_no rfl rfl
            · by_cases c3 : (1048576 : Int) < ((V2 k).size : Int)
              · go_wp2
                go_ret
                exact guard_no rfl rfl
              · by_cases c4 : (1048576 : Int) < (T2 : Int) + ((N2 k).size : Int) + ((V2 k).size : Int)
                · go_wp2
                  go_ret
                  exact guard_no rfl rfl
                · go_wp2
                  go_round
                  case rel => exact ⟨k + 1, by omega, by go_num, by rw [HT.out]; have := HTT.out; go_num, by rw [HT.out]; have := HTT.out; omega⟩
                  case measure => simp [intOf]; omega
        · clear q2
          obtain rfl : k = n2 := by omega
          have := HT0.out
          go_wp2
          go_ret
          exact guard_yes (by omega) rfl rfl

end Go.Proofs.Qxb6632426a
