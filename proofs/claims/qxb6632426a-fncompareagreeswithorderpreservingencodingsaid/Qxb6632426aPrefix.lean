/-
  SEAT b6632426a: FnComparePrefixSwapAndProperPrefix: the walk out of the contracts.
-/
import Derived.Test.Qxb6632426aGuards
import Derived.Test.Qxb6632426aMake
namespace Go.Proofs.Qxb6632426a
open Go.RowKit Go.Proofs.Qxb6632426a.Plain

def lab (n : Nat) (N V : Nat → ByteArray) : List (Bs × Bs) := labs n (bs N) (bs V)

theorem lab_cat (n m : Nat) (N V N' V' : Nat → ByteArray) : lab (n + m) (cat n N N') (cat n V V') = lab n N V ++ lab m N' V' := by
  unfold lab
  rw [← labs_append]
  have e : ∀ (X X' : Nat → ByteArray), bs (cat n X X') = fun i => if i < n then bs X i else bs X' (i - n) := by
    intro X X'
    funext i
    unfold bs cat
    split <;> rfl
  rw [e, e]

/-- storage.Compare: it answers x, the order of the two sets; nothing turns but draws. -/
theorem compare_is (x : Int) (a a' : Option Addr) (n m c c' : Nat) (N V N' V' : Nat → ByteArray) (w : World) (hn : n ≤ 4194304) (hm : m ≤ 4194304) (h : LV w a n N V) (h' : LV w a' m N' V') (hx : Hid (cmpL (lab n N V) (lab m N' V') = x)) :
    Calls Try.prog 10 #[.slice a n c, .slice a' m c'] w fun e w' => e = .returned (.int .i64 x) ∧ Below w.heap.size w w' := by
  refine (compare_any a a' n m c c' N V N' V' w hn hm h h').mono ?_
  rintro e w' ⟨he, q, rfl⟩
  refine ⟨?_, below_drewN (Below.refl _ _) q⟩
  have e1 := cmpF_eq n m (bs N) (bs V) (bs N') (bs V') (min n m) 0 (by omega)
  rw [List.drop_zero, List.drop_zero] at e1
  rw [he, e1, ← hx.out]
  rfl

set_option maxHeartbeats 2000000 in
set_option maxRecDepth 100000 in
theorem pfx_walk (ap aa ab : Option Addr) (np na nb kp ka kb : Nat) (Np Vp Na Va Nb Vb : Nat → ByteArray) (w : World) (mp : np ≤ 9223372036854775807) (ma : na ≤ 9223372036854775807) (mb : nb ≤ 9223372036854775807)
    (vp : LV w ap np Np Vp) (va : LV w aa na Na Va) (vb : LV w ab nb Nb Vb) (ip : ap = none → np = 0) (ia : aa = none → na = 0) (ib : ab = none → nb = 0) :
    Calls Try.prog 4 #[.slice ap np kp, .slice aa na ka, .slice ab nb kb] w fun e w' => e = .returned (.bool true) ∧ Below w.heap.size w w' := by
  go_enter Try.func4, Try.ntmps4
  go_wp2_with fail
  refine (zzBytes11_any ap aa ab np na nb kp ka kb Np Vp Na Va Nb Vb w mp ma mb vp va vb).mono ?_
  rintro e w' ⟨r, rfl, hp, rfl⟩
  cases r with
  | false =>
    go_wp2
    go_ret
    exact ⟨rfl, Below.refl _ _⟩
  | true =>
    obtain ⟨lp, la, lb⟩ := hp rfl
    clear hp mp ma mb
    go_wp2_with fail
    refine (labelBytes_any _ _ _ _ _ _ _ (by omega) vp (by omega) (by omega)).mono ?_
    rintro e w' ⟨t1, rfl, p1, p1', rfl⟩
    go_wp2_with fail
    refine (labelBytes_any _ _ _ _ _ _ _ (by omega) va p1 p1').mono ?_
    rintro e w' ⟨t2, rfl, p2, p2', rfl⟩
    go_wp2_with fail
    refine (labelBytes_any _ _ _ _ _ _ _ (by omega) vb p2 p2').mono ?_
    rintro e w' ⟨t3, rfl, p3, p3', rfl⟩
    by_cases ht : 1048576 < t3
    · go_wp2
      go_ret
      exact ⟨rfl, Below.refl _ _⟩
    · clear p1 p1' p2 p2'
      go_wp2_with fail
      refine (toLabels_any _ _ _ _ _ _ (by omega) va ia).mono ?_
      rintro e w1 ⟨aA, cA, rfl, vA1, b1⟩
      have vp1 := vp.below b1
      have va1 := va.below b1
      have vb1 := vb.below b1
      go_wp2_with fail
      refine (toLabels_any _ _ _ _ _ _ (by omega) vb1 ib).mono ?_
      rintro e w2 ⟨aB, cB, rfl, vB2, b2⟩
      have vA2 := vA1.below b2
      have vp2 := vp1.below b2
      have va2 := va1.below b2
      have vb2 := vb1.below b2
      have b02 := b1.trans (b2.mono b1.size)
      clear vp va vb vA1 vp1 va1 vb1 b1 b2
      go_wp2_with fail
      refine (toLabels_any _ _ _ _ _ _ (by omega) vp2 ip).mono ?_
      rintro e w3 ⟨aP, cP, rfl, vP3, b3⟩
      have vA3 := vA2.below b3
      have vB3 := vB2.below b3
      have vp3 := vp2.below b3
      have va3 := va2.below b3
      have vb3 := vb2.below b3
      have b03 := b02.trans (b3.mono b02.size)
      clear vA2 vB2 vp2 va2 vb2 b02 b3
      go_wp2_with fail
      refine (concat_any _ _ _ _ _ _ _ _ _ _ _ (by omega) (by omega) vp3 va3).mono ?_
      rintro e w4 ⟨aPA, cPA, rfl, vPA4, b4⟩
      have vA4 := vA3.below b4
      have vB4 := vB3.below b4
      have vP4 := vP3.below b4
      have vp4 := vp3.below b4
      have vb4 := vb3.below b4
      have b04 := b03.trans (b4.mono b03.size)
      clear vA3 vB3 vP3 vp3 va3 vb3 b03 b4
      go_wp2_with fail
      refine (concat_any _ _ _ _ _ _ _ _ _ _ _ (by omega) (by omega) vp4 vb4).mono ?_
      rintro e w5 ⟨aPB, cPB, rfl, vPB5, b5⟩
      have vA5 := vA4.below b5
      have vB5 := vB4.below b5
      have vP5 := vP4.below b5
      have vPA5 := vPA4.below b5
      have b05 := b04.trans (b5.mono b04.size)
      clear vA4 vB4 vP4 vPA4 vp4 vb4 b04 b5
      -- the plain law
      obtain ⟨c, hc⟩ : ∃ c : Int, cmpL (lab na Na Va) (lab nb Nb Vb) = c := ⟨_, rfl⟩
      have hcs := cmpL_cases (lab na Na Va) (lab nb Nb Vb)
      rw [hc] at hcs
      have hc1 : -1 ≤ c := by omega
      have hc2 : c ≤ 1 := by omega
      have H1 : Hid (cmpL (lab na Na Va) (lab nb Nb Vb) = c) := hc
      have H2 : Hid (cmpL (lab (np + na) (cat np Np Na) (cat np Vp Va)) (lab (np + nb) (cat np Np Nb) (cat np Vp Vb)) = c) := by
        show _ = _
        rw [lab_cat, lab_cat, cmpL_pfx, hc]
      have H3 : Hid (cmpL (lab nb Nb Vb) (lab na Na Va) = -c) := by
        show _ = _
        rw [cmpL_swap, hc]
      have hlen : (lab na Na Va).length = na := by simp [lab, labs]
      have H4 : Hid (cmpL (lab (np + na) (cat np Np Na) (cat np Vp Va)) (lab np Np Vp) = if na = 0 then 0 else 1) := by
        show _ = _
        rw [lab_cat, cmpL_proper, hlen]
      have H5 : Hid (cmpL (lab np Np Vp) (lab (np + na) (cat np Np Na) (cat np Vp Va)) = -(if na = 0 then 0 else 1)) := by
        show _ = _
        rw [cmpL_swap, H4.out]
      have H6 : Hid (cmpL (lab (np + na) (cat np Np Na) (cat np Vp Va)) (lab (np + na) (cat np Np Na) (cat np Vp Va)) = 0) := cmpL_self _
      clear hc hcs hlen
      go_wp2_with fail
      refine (compare_is c _ _ _ _ _ _ _ _ _ _ _ (by omega) (by omega) vA5 vB5 H1).mono ?_
      rintro e w6 ⟨rfl, b6⟩
      have vA6 := vA5.below b6
      have vB6 := vB5.below b6
      have vP6 := vP5.below b6
      have vPA6 := vPA5.below b6
      have vPB6 := vPB5.below b6
      have b06 := b05.trans (b6.mono b05.size)
      clear vA5 vB5 vP5 vPA5 vPB5 b05 b6 H1
      go_wp2_with fail
      refine (compare_is c _ _ _ _ _ _ _ _ _ _ _ (by omega) (by omega) vPA6 vPB6 H2).mono ?_
      rintro e w7 ⟨rfl, b7⟩
      have vA7 := vA6.below b7
      have vB7 := vB6.below b7
      have vP7 := vP6.below b7
      have vPA7 := vPA6.below b7
      have b07 := b06.trans (b7.mono b06.size)
      clear vA6 vB6 vP6 vPA6 vPB6 b06 b7 H2
      go_wp2_with fail
      refine (compare_is (-c) _ _ _ _ _ _ _ _ _ _ _ (by omega) (by omega) vB7 vA7 H3).mono ?_
      rintro e w8 ⟨rfl, b8⟩
      have vP8 := vP7.below b8
      have vPA8 := vPA7.below b8
      have b08 := b07.trans (b8.mono b07.size)
      clear vA7 vB7 vP7 vPA7 b07 b8 H3
      by_cases hz : na = 0
      · rw [if_pos hz] at H4 H5
        subst hz
        go_wp2_with fail
        refine (compare_is 0 _ _ _ _ _ _ _ _ _ _ _ (by omega) (by omega) vPA8 vP8 H4).mono ?_
        rintro e w9 ⟨rfl, b9⟩
        have vP9 := vP8.below b9
        have vPA9 := vPA8.below b9
        have b09 := b08.trans (b9.mono b08.size)
        clear vP8 vPA8 b08 b9 H4
        go_wp2_with fail
        refine (compare_is 0 _ _ _ _ _ _ _ _ _ _ _ (by omega) (by omega) vP9 vPA9 H5).mono ?_
        rintro e w10 ⟨rfl, b10⟩
        have vPA10 := vPA9.below b10
        have b010 := b09.trans (b10.mono b09.size)
        clear vP9 vPA9 b09 b10 H5
        go_wp2_with fail
        refine (compare_is 0 _ _ _ _ _ _ _ _ _ _ _ (by omega) (by omega) vPA10 vPA10 H6).mono ?_
        rintro e w11 ⟨rfl, b11⟩
        have b011 := b010.trans (b11.mono b010.size)
        go_wp2
        go_ret
        exact ⟨rfl, b011⟩
      · rw [if_neg hz] at H4 H5
        go_wp2_with fail
        refine (compare_is 1 _ _ _ _ _ _ _ _ _ _ _ (by omega) (by omega) vPA8 vP8 H4).mono ?_
        rintro e w9 ⟨rfl, b9⟩
        have vP9 := vP8.below b9
        have vPA9 := vPA8.below b9
        have b09 := b08.trans (b9.mono b08.size)
        clear vP8 vPA8 b08 b9 H4
        go_wp2_with fail
        refine (compare_is (-1) _ _ _ _ _ _ _ _ _ _ _ (by omega) (by omega) vP9 vPA9 H5).mono ?_
        rintro e w10 ⟨rfl, b10⟩
        have vPA10 := vPA9.below b10
        have b010 := b09.trans (b10.mono b09.size)
        clear vP9 vPA9 b09 b10 H5
        go_wp2_with fail
        refine (compare_is 0 _ _ _ _ _ _ _ _ _ _ _ (by omega) (by omega) vPA10 vPA10 H6).mono ?_
        rintro e w11 ⟨rfl, b11⟩
        have b011 := b010.trans (b11.mono b010.size)
        go_wp2
        go_ret
        exact ⟨rfl, b011⟩

end Go.Proofs.Qxb6632426a
