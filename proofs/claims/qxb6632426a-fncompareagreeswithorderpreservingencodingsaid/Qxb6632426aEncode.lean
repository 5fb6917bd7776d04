/-
  SEAT b6632426a: FnCompareAgreesWithOrderPreservingEncoding: the walk out of the contracts.
-/
import Derived.Test.Qxb6632426aEnc
namespace Go.Proofs.Qxb6632426a
open Go.RowKit Go.Proofs.Qxb6632426a.Plain

theorem BV.below {w w' : World} {a : Option Addr} {n : Nat} {X : Nat → Nat} (h : BV w a n X) (hb : Below w.heap.size w w') : BV w' a n X := by
  rcases h with h | ⟨g, ha, hc⟩
  · exact .inl h
  · exact .inr ⟨g, ha, fun i hi => (hb.cell (cell_block (hc i hi))).trans (hc i hi)⟩

theorem bytesCmp_is (x : Int) (a a' : Option Addr) (c c' : Nat) (l l' : Bs) (w : World) (hn : l.length ≤ 1073741824) (hm : l'.length ≤ 1073741824) (h : BV w a l.length (fun i => (l.getD i 0).toNat)) (h' : BV w a' l'.length (fun i => (l'.getD i 0).toNat)) (hx : Hid (Lib.compareBytes l l' = x)) :
    Calls Try.prog 8 #[.slice a l.length c, .slice a' l'.length c'] w fun e w' => e = .returned (.int .i64 x) ∧ Below w.heap.size w w' := by
  refine (bytesCmp_any a a' l.length l'.length c c' _ _ w hn hm h h').mono ?_
  rintro e w' ⟨he, q, rfl⟩
  refine ⟨?_, below_drewN (Below.refl _ _) q⟩
  have e1 := cbF_eq l l' (min l.length l'.length) 0 (by omega)
  rw [List.drop_zero, List.drop_zero] at e1
  rw [he, e1, ← hx.out]

set_option maxHeartbeats 2000000 in
set_option maxRecDepth 100000 in
theorem enc_walk (aa ab : Option Addr) (na nb ka kb : Nat) (Na Va Nb Vb : Nat → ByteArray) (w : World) (ma : na ≤ 9223372036854775807) (mb : nb ≤ 9223372036854775807)
    (va : LV w aa na Na Va) (vb : LV w ab nb Nb Vb) (ia : aa = none → na = 0) (ib : ab = none → nb = 0) :
    Calls Try.prog 3 #[.slice aa na ka, .slice ab nb kb] w fun e w' => e = .returned (.bool true) ∧ Below w.heap.size w w' := by
  go_enter Try.func3, Try.ntmps3
  go_wp2_with fail
  refine (zzBytes5_any aa ab na nb ka kb Na Va Nb Vb w ma mb va vb).mono ?_
  rintro e w' ⟨r, rfl, hp, rfl⟩
  cases r with
  | false =>
    go_wp2
    go_ret
    exact ⟨rfl, Below.refl _ _⟩
  | true =>
    obtain ⟨la, lb⟩ := hp rfl
    clear hp ma mb
    go_wp2_with fail
    refine (labelBytes_any _ _ _ _ _ _ _ (by omega) va (by omega) (by omega)).mono ?_
    rintro e w' ⟨t1, rfl, p1, p1', rfl⟩
    go_wp2_with fail
    refine (labelBytes_any _ _ _ _ _ _ _ (by omega) vb p1 p1').mono ?_
    rintro e w' ⟨t2, rfl, p2, p2', rfl⟩
    by_cases ht : 1048576 < t2
    · go_wp2
      go_ret
      exact ⟨rfl, Below.refl _ _⟩
    · clear p1 p1'
      go_wp2_with fail
      refine (toLabels_any _ _ _ _ _ _ (by omega) va ia).mono ?_
      rintro e w1 ⟨aA, cA, rfl, vA1, b1⟩
      have va1 := va.below b1
      have vb1 := vb.below b1
      go_wp2_with fail
      refine (toLabels_any _ _ _ _ _ _ (by omega) vb1 ib).mono ?_
      rintro e w2 ⟨aB, cB, rfl, vB2, b2⟩
      have vA2 := vA1.below b2
      have va2 := va1.below b2
      have vb2 := vb1.below b2
      have b02 := b1.trans (b2.mono b1.size)
      clear va vb vA1 va1 vb1 b1 b2
      go_wp2_with fail
      refine (encodeLabels_any _ _ _ _ _ _ va2 la).mono ?_
      rintro e w3 ⟨vx, rfl, ox, b3⟩
      obtain ⟨ax, cx, hvx, bx3⟩ := ox.view
      subst hvx
      have vA3 := vA2.below b3
      have vB3 := vB2.below b3
      have vb3 := vb2.below b3
      have b03 := b02.trans (b3.mono b02.size)
      clear ox vA2 vB2 va2 vb2 b02 b3
      go_wp2_with fail
      refine (encodeLabels_any _ _ _ _ _ _ vb3 lb).mono ?_
      rintro e w4 ⟨vy, rfl, oy, b4⟩
      obtain ⟨ay, cy, hvy, by4⟩ := oy.view
      subst hvy
      have vA4 := vA3.below b4
      have vB4 := vB3.below b4
      have bx4 := bx3.below b4
      have b04 := b03.trans (b4.mono b03.size)
      clear oy vA3 vB3 vb3 b03 b4 bx3
      have lx := encL_len Na Va na
      have ly := encL_len Nb Vb nb
      obtain ⟨c, hc⟩ : ∃ c : Int, cmpL (lab na Na Va) (lab nb Nb Vb) = c := ⟨_, rfl⟩
      have H1 : Hid (cmpL (lab na Na Va) (lab nb Nb Vb) = c) := hc
      have H2 : Hid (Lib.compareBytes (encL (lab na Na Va)) (encL (lab nb Nb Vb)) = c) := by
        show _ = _
        rw [cb_encL, hc]
      clear hc
      go_wp2_with fail
      refine (bytesCmp_is c _ _ _ _ _ _ _ (by omega) (by omega) bx4 by4 H2).mono ?_
      rintro e w5 ⟨rfl, b5⟩
      have vA5 := vA4.below b5
      have vB5 := vB4.below b5
      have b05 := b04.trans (b5.mono b04.size)
      clear vA4 vB4 bx4 by4 b04 b5 lx ly H2
      go_wp2_with fail
      refine (compare_is c _ _ _ _ _ _ _ _ _ _ _ (by omega) (by omega) vA5 vB5 H1).mono ?_
      rintro e w6 ⟨rfl, b6⟩
      have b06 := b05.trans (b6.mono b05.size)
      go_wp2
      go_ret
      exact ⟨rfl, b06⟩

end Go.Proofs.Qxb6632426a
