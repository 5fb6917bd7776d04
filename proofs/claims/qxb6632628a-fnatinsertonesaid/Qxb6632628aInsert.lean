/-
  SEAT b6632628a: FnAtInsertOne: the walk out of the contracts.
-/
import Derived.Test.Qxb6632628aInner
namespace Go.Proofs.Qxb6632628a
open Go.RowKit Go.Proofs.Qxb6632628a.Plain

theorem at_is (s : ByteArray) (a : Option Addr) (n c : Nat) (x : Int) (S : Nat → ByteArray) (F L : Nat → Int) (w : World) (hn : n ≤ 1048576) (h : DV w a n S F L) (hs : Hid (nm S (best F L x n) = s)) :
    Calls Try.prog 8 #[.slice a n c, .int .i64 x] w fun e w' => e = .returned (.string s) ∧ Below w.heap.size w w' := by
  refine (at_any a n c x S F L w hn h).mono ?_
  rintro e w' ⟨he, hb⟩
  exact ⟨by rw [he, hs.out], hb⟩

theorem news_three1 (w : World) (x y z : Value) (t : TypeId) : ∀ j u, [x, y, z][j]? = some u → (w.alloc (.cells #[x, y, z] t)).cell? ((⟨w.heap.size, 0, none⟩ : Addr).add j) = some u := news_three w x y z t

theorem spare1 {w : World} {B o : Nat} (O : Obj) (hB : B < w.heap.size) (h : ∀ j, j < 3 → (w.cell? ⟨B, o + j, none⟩).isSome = true ∧ w.frozen? ⟨B, o + j, none⟩ = false) :
    ∀ j, j < 3 → ((w.alloc O).cell? ⟨B, o + j, none⟩).isSome = true ∧ (w.alloc O).frozen? ⟨B, o + j, none⟩ = false := by
  intro j hj
  have hb : Below (B + 1) w (w.alloc O) := (Below.refl _ _).alloc hB _
  rw [hb.cell (p := ⟨B, o + j, none⟩) (Nat.lt_succ_self B), hb.frozen (p := ⟨B, o + j, none⟩) (Nat.lt_succ_self B)]
  exact h j hj

theorem DRow.alloc {w : World} {B n k : Nat} {S : Nat → ByteArray} {F L : Nat → Int} (h : DRow w B n k S F L) (O : Obj) : DRow (w.alloc O) B n k S F L := Row3.of_block h (Below.heap_alloc w O B (Row3.lt h))

/-- the loop over m and have: one step -/
theorem mx_take {F L : Nat → Int} {x : Int} {k : Nat} (h : best F L x (k + 1) = some k) : (best F L x (k + 1)).isSome = true ∧ mx F (best F L x (k + 1)) = F k := by rw [h]; exact ⟨rfl, rfl⟩

/-- what becomes of the name, by cases -/
theorem after_new {S : Nat → ByteArray} {F L : Nat → Int} {x u v : Int} {p n : Nat} {s : ByteArray} (h : IsBest (ins p F u) (ins p L v) x (n + 1) p) : nm (ins p S s) (best (ins p F u) (ins p L v) x (n + 1)) = s := by
  rw [best_of h]
  exact ins_at
theorem after_old {S : Nat → ByteArray} {F L : Nat → Int} {x u v : Int} {p n b : Nat} {s : ByteArray} (h0 : best F L x n = some b) (h : IsBest (ins p F u) (ins p L v) x (n + 1) (sh p b)) : nm (ins p S s) (best (ins p F u) (ins p L v) x (n + 1)) = nm S (best F L x n) := by
  rw [best_of h, h0]
  exact ins_sh
theorem after_none {S : Nat → ByteArray} {F L : Nat → Int} {x u v : Int} {p n : Nat} {s : ByteArray} (hp : p ≤ n) (h0 : best F L x n = none) (hl : (decide (u ≤ x) && decide (x ≤ v)) = false) : nm (ins p S s) (best (ins p F u) (ins p L v) x (n + 1)) = nm S (best F L x n) := by
  rw [ins_none hp h0 hl, h0]
  rfl

set_option maxHeartbeats 1000000 in
set_option maxRecDepth 100000 in
theorem insert_walk (a : Option Addr) (n c : Nat) (x p : Int) (nam : ByteArray) (fi la : Int) (S : Nat → ByteArray) (F L : Nat → Int) (w : World) (m1 : n ≤ 9223372036854775807) (v : DV w a n S F L) (hnil : a = none → n = 0) :
    Calls Try.prog 4 #[.slice a n c, .int .i64 x, .int .i64 p, .string nam, .int .i64 fi, .int .i64 la] w fun e w' => e = .returned (.bool true) ∧ Below w.heap.size w w' := by
  obtain ⟨i0, hi, hz0, hz1, hz2⟩ := info_parts Try.info33
  go_enter Try.func4, Try.ntmps4
  go_wp2_with fail
  refine (zzBytes10_any a n c x p nam fi la S F L w m1 v).mono ?_
  rintro e w' ⟨r, rfl, _, rfl⟩
  cases r with
  | false =>
    go_wp2
    go_ret
    exact ⟨rfl, Below.refl _ _⟩
  | true =>
    go_wp2_with fail
    refine (fits_any a n c nam S F L _ m1 v).mono ?_
    rintro e w' ⟨r, rfl, hp, rfl⟩
    cases r with
    | false =>
      go_wp2
      go_ret
      exact ⟨rfl, Below.refl _ _⟩
    | true =>
      have hn := hp rfl
      clear hp m1
      by_cases p0 : p < 0
      · go_wp2
        go_ret
        exact ⟨rfl, Below.refl _ _⟩
      by_cases p1 : (n : Int) < p
      · go_wp2
        go_ret
        exact ⟨rfl, Below.refl _ _⟩
      obtain ⟨pn, rfl⟩ : ∃ pn : Nat, p = pn := ⟨p.toNat, by omega⟩
      have hpn : pn ≤ n := by omega
      clear p0 p1
      go_wp2_with fail
      refine (toOutline_any a n c S F L _ hn v hnil).mono ?_
      rintro e w1 ⟨ao, co, rfl, vo, b1⟩
      have v1 := v.below b1
      clear v hnil
      obtain ⟨Bf, hBf⟩ : ∃ s, nm S (best F L x n) = s := ⟨_, rfl⟩
      have HBf : Hid (nm S (best F L x n) = Bf) := hBf
      clear hBf
      go_wp2_with fail
      refine (at_is Bf ao n co x S F L w1 (by omega) vo HBf).mono ?_
      rintro e w2 ⟨rfl, b2⟩
      have v2 := v1.below b2
      have o2 := vo.below b2
      have b02 := b1.trans (b2.mono b1.size)
      clear v1 vo b1 b2
      have hmk := run_make_empty3 (n + 1) (by omega)
      have en : ((n + 1 : Nat) : Int) = (n : Int) + 1 := by omega
      rw [en] at hmk
      clear en
      go_wp2
      obtain ⟨B, hB⟩ : ∃ B : Nat, B = w2.heap.size := ⟨_, rfl⟩
      have HB : Hid (B = w2.heap.size) := hB
      obtain ⟨w3, hw3⟩ : ∃ x : World, x = w2.alloc (.cells (mcD (n + 1)) 33) := ⟨_, rfl⟩
      have hr3 : DRow w3 B (n + 1) 0 (ins pn S nam) (ins pn F fi) (ins pn L la) := by rw [hw3, hB]; exact Row3.made _ _ _ _ _ _ _
      have hb3 : Below B w2 w3 := by rw [hw3, hB]; exact (Below.refl _ _).alloc (Nat.le_refl _) _
      rw [← hw3, ← hB]
      clear hw3 hB hmk
      go_loopw [15, 16] (fun s i wr => ∃ k : Nat, k ≤ pn ∧ i = .int .i64 k ∧ s = .slice (some ⟨B, 0, none⟩) k (n + 1) ∧ DRow wr B (n + 1) k (ins pn S nam) (ins pn F fi) (ins pn L la) ∧ Below B w2 wr) (fun _ i _ => pn - (intOf i).toNat)
      case atStart => exact ⟨0, Nat.zero_le _, rfl, rfl, hr3, hb3⟩
      case round =>
        clear hr3 hb3
        obtain ⟨k, hk, rfl, rfl, hr, hbel⟩ := hrel
        have hBs := Row3.lt hr
        by_cases h1 : k < pn
        · obtain ⟨b, off, rfl, hc⟩ := o2.resolve_left (by omega)
          obtain ⟨g1, g2, g3⟩ := hc k (by omega)
          have pb : b < B := by rw [HB.out]; exact cell_block g1
          have r1 := (hbel.cell (p := ⟨b, off + k * 3, none⟩) pb).trans g1
          have r2 := (hbel.cell (p := ⟨b, off + k * 3 + 1, none⟩) pb).trans g2
          have r3 := (hbel.cell (p := ⟨b, off + k * 3 + 2, none⟩) pb).trans g3
          have hroom := Row3.room hr (show k < n + 1 by omega)
          clear hc o2 g1 g2 g3 v2
          go_wp2_with (at_builtin; refine wpList_append_room _ rfl (.tmp 59) (.tmp 64) 26 rfl 33 i0 3 Try.underlying26 hi hz1 B 0 k (n + 1) rfl ⟨wr.heap.size, 0, none⟩ 1 1 [.string (S k), .int .i64 (F k), .int .i64 (L k)] rfl rfl (news_three1 _ _ _ _ _) (by simp [Value.oneCell']) (by omega) (spare1 _ hBs hroom) ?_)
          go_roundw
          case rel =>
            have P1 := (hr.alloc (.cells #[.string (S k), .int .i64 (F k), .int .i64 (L k)] 33)).push (ins_lo h1) (ins_lo h1) (ins_lo h1)
            have P2 : Below B w2 ((wr.alloc (.cells #[.string (S k), .int .i64 (F k), .int .i64 (L k)] 33)).setCells B (k * 3) [.string (S k), .int .i64 (F k), .int .i64 (L k)]) := below_setCells3 (hbel.alloc (by omega) _) (Nat.le_refl _) _ _ _ _
            exact ⟨k + 1, by omega, by go_num, rfl, P1, P2⟩
          case measure => simp [intOf]; omega
        · obtain rfl : k = pn := by omega
          have hroom := Row3.room hr (show k < n + 1 by omega)
          go_wp2_with (at_builtin; refine wpList_append_room _ rfl (.tmp 66) (.tmp 71) 26 rfl 33 i0 3 Try.underlying26 hi hz1 B 0 k (n + 1) rfl ⟨wr.heap.size, 0, none⟩ 1 1 [.string nam, .int .i64 fi, .int .i64 la] rfl rfl (news_three1 _ _ _ _ _) (by simp [Value.oneCell']) (by omega) (spare1 _ hBs hroom) ?_)
          obtain ⟨w4, hw4⟩ : ∃ y : World, y = (wr.alloc (.cells #[.string nam, .int .i64 fi, .int .i64 la] 33)).setCells B (k * 3) [.string nam, .int .i64 fi, .int .i64 la] := ⟨_, rfl⟩
          have P1 : DRow w4 B (n + 1) (k + 1) (ins k S nam) (ins k F fi) (ins k L la) := by rw [hw4]; exact (hr.alloc _).push ins_at ins_at ins_at
          have P2 : Below B w2 w4 := by rw [hw4]; exact below_setCells3 (hbel.alloc (by omega) _) (Nat.le_refl _) _ _ _ _
          rw [← hw4]
          clear hw4 hr hbel hroom hBs h1
          go_loopw [15, 17] (fun s i wr => ∃ q : Nat, k ≤ q ∧ q ≤ n ∧ i = .int .i64 q ∧ s = .slice (some ⟨B, 0, none⟩) (q + 1) (n + 1) ∧ DRow wr B (n + 1) (q + 1) (ins k S nam) (ins k F fi) (ins k L la) ∧ Below B w2 wr) (fun _ i _ => n - (intOf i).toNat)
          case atStart => exact ⟨k, Nat.le_refl _, hpn, rfl, rfl, P1, P2⟩
          case round =>
            clear P1 P2
            obtain ⟨q, hkq, hqn, rfl, rfl, hr, hbel⟩ := hrel
            have hBs := Row3.lt hr
            by_cases h1 : q < n
            · obtain ⟨b, off, rfl, hc⟩ := o2.resolve_left (by omega)
              obtain ⟨g1, g2, g3⟩ := hc q (by omega)
              have pb : b < B := by rw [HB.out]; exact cell_block g1
              have r1 := (hbel.cell (p := ⟨b, off + q * 3, none⟩) pb).trans g1
              have r2 := (hbel.cell (p := ⟨b, off + q * 3 + 1, none⟩) pb).trans g2
              have r3 := (hbel.cell (p := ⟨b, off + q * 3 + 2, none⟩) pb).trans g3
              have hroom := Row3.room hr (show q + 1 < n + 1 by omega)
              clear hc o2 g1 g2 g3 v2
              go_wp2_with (at_builtin; refine wpList_append_room _ rfl (.tmp 80) (.tmp 85) 26 rfl 33 i0 3 Try.underlying26 hi hz1 B 0 (q + 1) (n + 1) rfl ⟨wr.heap.size, 0, none⟩ 1 1 [.string (S q), .int .i64 (F q), .int .i64 (L q)] rfl rfl (news_three1 _ _ _ _ _) (by simp [Value.oneCell']) (by omega) (spare1 _ hBs hroom) ?_)
              go_roundw
              case rel =>
                have P1 := (hr.alloc (.cells #[.string (S q), .int .i64 (F q), .int .i64 (L q)] 33)).push (ins_hi hkq) (ins_hi hkq) (ins_hi hkq)
                have P2 : Below B w2 ((wr.alloc (.cells #[.string (S q), .int .i64 (F q), .int .i64 (L q)] 33)).setCells B ((q + 1) * 3) [.string (S q), .int .i64 (F q), .int .i64 (L q)]) := below_setCells3 (hbel.alloc (by omega) _) (Nat.le_refl _) _ _ _ _
                exact ⟨q + 1, by omega, by omega, by go_num, rfl, P1, P2⟩
              case measure => simp [intOf]; omega
            · obtain rfl : q = n := by omega
              have vi := hr.view (Nat.le_refl _)
              have v5 := v2.below (HB.out ▸ hbel)
              have b05 := b02.trans ((HB.out ▸ hbel : Below w2.heap.size w2 wr).mono b02.size)
              clear hr hbel hBs v2 o2 b02 h1 hi hz0 hz1 hz2
              obtain ⟨Af, hAf⟩ : ∃ s, nm (ins k S nam) (best (ins k F fi) (ins k L la) x (q + 1)) = s := ⟨_, rfl⟩
              have HAf : Hid (nm (ins k S nam) (best (ins k F fi) (ins k L la) x (q + 1)) = Af) := hAf
              clear hAf
              go_wp2_with fail
              refine (at_is Af _ (q + 1) _ x _ _ _ wr (by omega) vi HAf).mono ?_
              rintro e w6 ⟨rfl, b6⟩
              have v6 := v5.below b6
              have b06 := b05.trans (b6.mono b05.size)
              clear vi v5 b05 b6
              cases hd : (decide (fi ≤ x) && decide (x ≤ la)) with
              | false =>
                have HD : Hid ((decide (fi ≤ x) && decide (x ≤ la)) = false) := hd
                have e1 : Af = Bf := by
                  rw [← HAf.out, ← HBf.out]
                  cases ho : best F L x q with
                  | none => rw [after_none hpn ho hd, ho]
                  | some y => rw [after_old ho (ins_old hpn (best_some q y ho) (.inl hd)), ho]
                rw [e1]
                clear e1 hd v6
                go_wp2_with fail
                refine (spans_is false _ _ _ _ _ HD).mono ?_
                rintro e w7 ⟨rfl, b7⟩
                have b07 := (b06.alloc b06.size _).trans (b7.mono (b06.alloc b06.size _).size)
                clear b7 b06
                go_wp2
                go_ret
                exact ⟨rfl, b07⟩
              | true =>
                have HD : Hid ((decide (fi ≤ x) && decide (x ≤ la)) = true) := hd
                clear hd
                go_wp2_with fail
                refine (spans_is true _ _ _ _ _ HD).mono ?_
                rintro e w7 ⟨rfl, b7⟩
                have hal := (Below.refl w6.heap.size w6).alloc (Nat.le_refl _) (.cells #[.string nam, .int .i64 fi, .int .i64 la] 31)
                have b67 : Below w6.heap.size w6 w7 := hal.trans (b7.mono hal.size)
                have v7 := v6.below b67
                have b07 := b06.trans (b67.mono b06.size)
                clear b7 b06 hal v6 b67
                go_wp2
                go_loopw [20, 21, 22] (fun h m i wr => ∃ t : Nat, t ≤ q ∧ i = .int .i64 t ∧ h = .bool (best F L x t).isSome ∧ m = .int .i64 (mx F (best F L x t)) ∧ Below w7.heap.size w7 wr) (fun _ _ i _ => q - (intOf i).toNat)
                case atStart => exact ⟨0, Nat.zero_le _, rfl, rfl, rfl, Below.refl _ _⟩
                case round =>
                  obtain ⟨t, htq, rfl, rfl, rfl, hb⟩ := hrel
                  by_cases h1 : t < q
                  · obtain ⟨b, off, rfl, hc⟩ := (v7.below hb).resolve_left (by omega)
                    obtain ⟨g1, g2, g3⟩ := hc t h1
                    clear hc
                    obtain ⟨IS, hIS⟩ : ∃ z, z = (best F L x t).isSome := ⟨_, rfl⟩
                    obtain ⟨MX, hMX⟩ : ∃ z, z = mx F (best F L x t) := ⟨_, rfl⟩
                    rw [← hIS, ← hMX]
                    have HI : Hid (IS = (best F L x t).isSome ∧ MX = mx F (best F L x t)) := ⟨hIS, hMX⟩
                    clear hIS hMX
                    cases hsp : sp F L x t with
                    | false =>
                      have HSP : Hid (sp F L x t = false) := hsp
                      clear hsp
                      go_wp2_with fail
                      refine (spans_is false _ _ _ _ _ HSP).mono ?_
                      rintro e w8 ⟨rfl, b8⟩
                      have hb8 := hb.trans (b8.mono hb.size)
                      clear b8 g1 g2 g3 hb v7
                      go_wp2
                      go_roundw
                      case rel => exact ⟨t + 1, by omega, by go_num, by rw [best_skip HSP.out, HI.out.1], by rw [best_skip HSP.out, HI.out.2], hb8⟩
                      case measure => simp [intOf]; omega
                    | true =>
                      have HSP : Hid (sp F L x t = true) := hsp
                      clear hsp
                      go_wp2_with fail
                      refine (spans_is true _ _ _ _ _ HSP).mono ?_
                      rintro e w8 ⟨rfl, b8⟩
                      have hb8 := hb.trans (b8.mono hb.size)
                      have g2' := (b8.cell (cell_block g2)).trans g2
                      clear b8 g1 g2 g3 hb v7
                      cases ho : best F L x t with
                      | none =>
                        have e1 : IS = false := by rw [HI.out.1, ho]; rfl
                        have HE : Hid (best F L x (t + 1) = some t) := best_take HSP.out (by rw [ho]; rfl)
                        subst e1
                        clear ho
                        go_wp2
                        go_roundw
                        case rel => exact ⟨t + 1, by omega, by go_num, by rw [HE.out]; rfl, by rw [HE.out]; rfl, hb8⟩
                        case measure => simp [intOf]; omega
                      | some y =>
                        have e1 : IS = true := by rw [HI.out.1, ho]; rfl
                        have e2 : MX = F y := by rw [HI.out.2, ho]; rfl
                        subst e1
                        rw [e2]
                        clear e2
                        by_cases c1 : F y < F t
                        · have HE : Hid (best F L x (t + 1) = some t) := best_take HSP.out (by rw [ho]; simpa [beat] using c1)
                          clear ho
                          go_wp2
                          go_roundw
                          case rel => exact ⟨t + 1, by omega, by go_num, by rw [HE.out]; rfl, by rw [HE.out]; rfl, hb8⟩
                          case measure => simp [intOf]; omega
                        · have HE : Hid (best F L x (t + 1) = some y) := (best_keep (by rw [ho]; simpa [beat] using c1)).trans ho
                          clear ho
                          go_wp2
                          go_roundw
                          case rel => exact ⟨t + 1, by omega, by go_num, by rw [HE.out]; rfl, by rw [HE.out]; rfl, hb8⟩
                          case measure => simp [intOf]; omega
                  · obtain rfl : t = q := by omega
                    have v9 := v7.below hb
                    have b09 := b07.trans (hb.mono b07.size)
                    clear v7 b07 hb
                    cases ho : best F L x t with
                    | none =>
                      have e1 : Af = nam := by
                        rw [← HAf.out]
                        refine after_new (ins_new hpn HD.out fun i hi hs => ?_)
                        rw [best_none t ho i hi] at hs
                        cases hs
                      have e2 : (none : Option Nat).isSome = false := rfl
                      rw [e1, e2]
                      clear e1 e2 ho v9
                      go_wp2
                      go_ret
                      exact ⟨rfl, b09⟩
                    | some y =>
                      have hy := best_some t y ho
                      have hyt := hy.lt
                      have e2 : (some y).isSome = true := rfl
                      have e3 : mx F (some y) = F y := rfl
                      rw [e2, e3]
                      have HY : Hid (best F L x t = some y ∧ IsBest F L x t y) := ⟨ho, hy⟩
                      clear e2 e3 ho hy
                      go_wp2
                      obtain ⟨wo, hwo⟩ : ∃ z : World, z = wr := ⟨_, rfl⟩
                      rw [← hwo] at v9 b09 ⊢
                      clear hwo
                      go_loopw [23, 24] (fun z i wr => z = .int .i64 (-1) ∧ ∃ s : Nat, s ≤ y ∧ i = .int .i64 s ∧ Below wo.heap.size wo wr) (fun _ i _ => y + 1 - (intOf i).toNat)
                      case atStart => exact ⟨rfl, 0, Nat.zero_le _, rfl, Below.refl _ _⟩
                      case round =>
                        obtain ⟨rfl, s, hsy, rfl, hb⟩ := hrel
                        have hst : s < t := by omega
                        obtain ⟨b, off, rfl, hc⟩ := (v9.below hb).resolve_left (by omega)
                        obtain ⟨g1, g2, g3⟩ := hc s hst
                        clear hc
                        by_cases h2 : s < y
                        · cases hsp : sp F L x s with
                          | false =>
                            have HSP : Hid (sp F L x s = false) := hsp
                            clear hsp
                            go_wp2_with fail
                            refine (spans_is false _ _ _ _ _ HSP).mono ?_
                            rintro e w8 ⟨rfl, b8⟩
                            have hb8 := hb.trans (b8.mono hb.size)
                            clear b8 g1 g2 g3 hb v9
                            go_wp2
                            go_roundw
                            case rel => exact ⟨rfl, s + 1, by omega, by go_num, hb8⟩
                            case measure => simp [intOf]; omega
                          | true =>
                            have HSP : Hid (sp F L x s = true) := hsp
                            have hlt := HY.out.2.first s h2 hsp
                            have hne : (F s == F y) = false := by simp; omega
                            clear hsp
                            go_wp2_with fail
                            refine (spans_is true _ _ _ _ _ HSP).mono ?_
                            rintro e w8 ⟨rfl, b8⟩
                            have hb8 := hb.trans (b8.mono hb.size)
                            have g2' := (b8.cell (cell_block g2)).trans g2
                            clear b8 g1 g2 g3 hb v9
                            go_wp2
                            go_roundw
                            case rel => exact ⟨rfl, s + 1, by omega, by go_num, hb8⟩
                            case measure => simp [intOf]; omega
                        · obtain rfl : s = y := by omega
                          have HSP : Hid (sp F L x s = true) := HY.out.2.spans
                          go_wp2_with fail
                          refine (spans_is true _ _ _ _ _ HSP).mono ?_
                          rintro e w8 ⟨rfl, b8⟩
                          have hb8 := hb.trans (b8.mono hb.size)
                          have b010 := b09.trans (hb8.mono b09.size)
                          have g2' := (b8.cell (cell_block g2)).trans g2
                          clear b8 g1 g2 g3 hb hb8 v9 b09
                          by_cases c1 : F s < fi
                          · have e1 : Af = nam := by
                              rw [← HAf.out]
                              refine after_new (ins_new hpn HD.out fun i hi hs => ?_)
                              have := HY.out.2.top i hi hs
                              exact ⟨by omega, fun _ => by omega⟩
                            rw [e1]
                            clear e1
                            go_wp2
                            go_ret
                            exact ⟨rfl, b010⟩
                          · by_cases c2 : fi < F s
                            · have e1 : Af = Bf := by
                                rw [← HAf.out, ← HBf.out]
                                exact after_old HY.out.1 (ins_old hpn HY.out.2 (.inr (.inl c2)))
                              rw [e1]
                              clear e1
                              go_wp2
                              go_ret
                              exact ⟨rfl, b010⟩
                            · by_cases c3 : k ≤ s
                              · have c3' : (k : Int) ≤ (s : Int) := by omega
                                have e1 : Af = nam := by
                                  rw [← HAf.out]
                                  refine after_new (ins_new hpn HD.out fun i hi hs => ?_)
                                  have := HY.out.2.top i hi hs
                                  exact ⟨by omega, fun hik => by have := HY.out.2.first i (by omega) hs; omega⟩
                                rw [e1]
                                clear e1
                                go_wp2
                                go_ret
                                exact ⟨rfl, b010⟩
                              · have c3' : ¬ (k : Int) ≤ (s : Int) := by omega
                                have e1 : Af = Bf := by
                                  rw [← HAf.out, ← HBf.out]
                                  exact after_old HY.out.1 (ins_old hpn HY.out.2 (.inr (.inr ⟨by omega, by omega⟩)))
                                rw [e1]
                                clear e1
                                go_wp2
                                go_ret
                                exact ⟨rfl, b010⟩

end Go.Proofs.Qxb6632628a
