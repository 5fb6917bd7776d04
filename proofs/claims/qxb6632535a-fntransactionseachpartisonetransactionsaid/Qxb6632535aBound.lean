/-
  SEAT b6632535a: zzInBound by its contract: where it answers true, each statement has at most 1<<20 hazards.
-/
import Derived.Test.Qxb6632535aViews
namespace Go.Proofs.Qxb6632535a
open Go.RowKit

set_option maxHeartbeats 4000000 in
set_option maxRecDepth 100000 in
theorem zzInBound_any (a : Option Addr) (n c : Nat) (K : Con) (A : Nat → Option Addr) (cp : Nat → Nat) (w : World) (m1 : n ≤ 9223372036854775807) (q : SV w a n K A cp) (hL : ∀ i, i < n → K.L i ≤ 9223372036854775807) :
    Calls Try.prog 6 #[.slice a n c] w fun e w' => GuardPost w (∀ i, i < n → K.L i ≤ 1048576) e w' := by
  obtain ⟨B, hB⟩ : ∃ B : Nat, B = w.heap.size := ⟨_, rfl⟩
  have HB : Hid (B = w.heap.size) := hB
  clear hB
  by_cases d0 : 65536 < ((n : Nat) : Int)
  · go_enter Try.func6, Try.ntmps6
    go_wp2
    go_ret
    exact guard_no rfl (Below.refl _ _)
  go_enter Try.func6, Try.ntmps6
  go_wp2
  go_loopw [3, 4, 5, 6] (fun s i _ _ wr => ∃ (k : Nat) (t : Int), k ≤ n ∧ i = .int .i64 k ∧ s = .int .i64 t ∧ 0 ≤ t ∧ t ≤ 1048576 ∧ (∀ i, i < k → K.L i ≤ 1048576) ∧ Below B w wr) (fun _ i _ _ _ => n - (intOf i).toNat)
  case atStart => exact ⟨0, _, Nat.zero_le _, rfl, rfl, by omega, by omega, fun i hi => by omega, Below.refl _ _⟩
  case round =>
    obtain ⟨k, t, hkn, rfl, rfl, t0, t1, hall, hbel⟩ := hrel
    have HA : Hid (∀ i, i < k → K.L i ≤ 1048576) := hall
    clear hall
    by_cases h1 : k < n
    · obtain ⟨b, off, rfl, hc⟩ := q.resolve_left (by omega)
      obtain ⟨g1, g2, g3, g4⟩ := hc k h1
      have pb : b < B := by rw [HB.out]; exact cell_block g1
      have r1 := (hbel.cell (p := ⟨b, off + k * 3, none⟩) pb).trans g1
      have r2 := (hbel.cell (p := ⟨b, off + k * 3 + 1, none⟩) pb).trans g2
      have hLk := hL k h1
      clear hc q hL g1 g3
      by_cases c1 : (1048576 : Int) < ((K.S k).size : Int)
      · go_wp2
        go_ret
        exact guard_no rfl (HB.out ▸ hbel)
      · by_cases c3 : (1048576 : Int) < (K.L k : Int)
        · go_wp2
          go_ret
          exact guard_no rfl (HB.out ▸ hbel)
        · go_wp2
          go_quiet (fail)
          have hbel1 : Below B w (wr.drewN nq) := below_drewN hbel nq
          by_cases c5 : (1048576 : Int) < t + (8 + ((K.S k).size : Int) + 8 * (K.L k : Int))
          · go_wp2
            go_ret
            exact guard_no rfl (HB.out ▸ hbel1)
          · go_wp2
            obtain ⟨wo, hwo⟩ : ∃ x : World, x = wr.drewN nq := ⟨_, rfl⟩
            rw [← hwo] at hbel1 ⊢
            clear hwo hbel r1 r2
            go_loopw [3, 5, 6] (fun s i _ wr => ∃ (j : Nat) (t : Int), j ≤ K.L k ∧ i = .int .i64 j ∧ s = .int .i64 t ∧ 0 ≤ t ∧ t ≤ 1048576 ∧ Below B w wr) (fun _ i _ _ => K.L k - (intOf i).toNat)
            case atStart => exact ⟨0, _, Nat.zero_le _, rfl, rfl, by omega, by omega, hbel1⟩
            case round =>
              clear hbel1 t0 t1 c5
              obtain ⟨j, t, hjn, rfl, rfl, t0, t1, hbel⟩ := hrel
              have r2 := (hbel.cell (p := ⟨b, off + k * 3 + 1, none⟩) pb).trans g2
              by_cases h2 : j < K.L k
              · obtain ⟨b', off', hA, hlo, hc'⟩ := g4.resolve_left (by omega)
                rw [hA] at r2
                obtain ⟨s1, s2, s3⟩ := hc' j h2
                have pb' : b' < B := by rw [HB.out]; exact cell_block s1
                have u1 := (hbel.cell (p := ⟨b', off' + j * 3, none⟩) pb').trans s1
                have u2 := (hbel.cell (p := ⟨b', off' + j * 3 + 1, none⟩) pb').trans s2
                have u3 := (hbel.cell (p := ⟨b', off' + j * 3 + 2, none⟩) pb').trans s3
                have hs := hbel.size
                have HS : Hid (B ≤ wr.heap.size) := by show _ ≤ _; rw [HB.out]; exact hs
                clear hc' g4 hlo hA g2 s1 s2 s3 hs
                go_wp2
                all_goals first
                  | (go_ret; exact guard_no rfl (HB.out ▸ (hbel.alloc HS.out _)))
                  | (go_roundw
                     case rel => exact ⟨j + 1, t + (K.X k j).size + (K.Y k j).size + (K.Z k j).size, by omega, by go_num, by go_num, by omega, by omega, hbel.alloc HS.out _⟩
                     case measure => simp [intOf]; omega)
              · clear g4
                go_wp2
                go_roundw
                case rel => exact ⟨k + 1, t, by omega, by go_num, rfl, t0, t1, fun i hi => by by_cases e : i = k; (subst e; omega); exact HA.out i (by omega), hbel⟩
                case measure => simp [intOf]; omega
    · obtain rfl : k = n := by omega
      clear q hL
      go_wp2
      go_ret
      exact guard_yes HA.out rfl (HB.out ▸ hbel)

end Go.Proofs.Qxb6632535a
