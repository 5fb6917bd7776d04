/-
  SEAT b6632535a: the byte guard, function 11, by its contract: what it answers is left open.
-/
import Derived.Test.Qxb6632535aViews
namespace Go.Proofs.Qxb6632535a
open Go.RowKit

set_option maxHeartbeats 4000000 in
set_option maxRecDepth 100000 in
theorem zzBytes11_any (a : Option Addr) (n c : Nat) (K : Con) (A : Nat → Option Addr) (cp : Nat → Nat) (w : World) (m1 : n ≤ 9223372036854775807) (q : SV w a n K A cp) (hL : ∀ i, i < n → K.L i ≤ 9223372036854775807) :
    Calls Try.prog 11 #[.slice a n c] w fun e w' => GuardPost w True e w' := by
  by_cases d0 : 1048576 < ((n : Nat) : Int)
  · go_enter Try.func11, Try.ntmps11
    go_wp2
    go_ret
    exact guard_no rfl (Below.refl _ _)
  go_enter Try.func11, Try.ntmps11
  go_wp2
  go_loop [3, 4, 5] (fun s i _ => ∃ (k : Nat) (t : Int), k ≤ n ∧ i = .int .i64 k ∧ s = .int .i64 t ∧ 0 ≤ t ∧ t ≤ 1048576) (fun _ i _ => n - (intOf i).toNat)
  case atStart => exact ⟨0, _, Nat.zero_le _, rfl, rfl, by omega, by omega⟩
  case round =>
    obtain ⟨k, t, hkn, rfl, rfl, t0, t1⟩ := hrel
    by_cases h1 : k < n
    · obtain ⟨b, off, rfl, hc⟩ := q.resolve_left (by omega)
      obtain ⟨g1, g2, g3, g4⟩ := hc k h1
      have hLk := hL k h1
      clear hc q hL
      by_cases c1 : (1048576 : Int) < ((K.S k).size : Int)
      · go_wp2
        go_ret
        exact guard_no rfl (Below.refl _ _)
      · skip
        by_cases c2 : (1048576 : Int) < t + ((K.S k).size : Int)
        · go_wp2
          go_ret
          exact guard_no rfl (Below.refl _ _)
        · skip
          by_cases c3 : (1048576 : Int) < (K.L k : Int)
          · go_wp2
            go_ret
            exact guard_no rfl (Below.refl _ _)
          · skip
            by_cases c4 : (1048576 : Int) < t + ((K.S k).size : Int) + (K.L k : Int)
            · go_wp2
              go_ret
              exact guard_no rfl (Below.refl _ _)
            · skip
              go_wp2
              go_loop [3, 5] (fun s i => ∃ (j : Nat) (t : Int), j ≤ K.L k ∧ i = .int .i64 j ∧ s = .int .i64 t ∧ 0 ≤ t ∧ t ≤ 1048576) (fun _ i => K.L k - (intOf i).toNat)
              case atStart => exact ⟨0, _, Nat.zero_le _, rfl, rfl, by omega, by omega⟩
              case round =>
                clear c1 c2 c3 c4 t0 t1
                obtain ⟨j, t, hjn, rfl, rfl, t0, t1⟩ := hrel
                by_cases h2 : j < K.L k
                · obtain ⟨b', off', hA, hlo, hc'⟩ := g4.resolve_left (by omega)
                  rw [hA] at g2
                  obtain ⟨r1, r2, r3⟩ := hc' j h2
                  clear hc' g4 hlo hA g1 g3
                  by_cases e1 : (1048576 : Int) < ((K.X k j).size : Int)
                  · go_wp2
                    go_ret
                    exact guard_no rfl (Below.refl _ _)
                  · skip
                    by_cases e2 : (1048576 : Int) < t + ((K.X k j).size : Int)
                    · go_wp2
                      go_ret
                      exact guard_no rfl (Below.refl _ _)
                    · skip
                      by_cases e3 : (1048576 : Int) < ((K.Y k j).size : Int)
                      · go_wp2
                        go_ret
                        exact guard_no rfl (Below.refl _ _)
                      · skip
                        by_cases e4 : (1048576 : Int) < t + ((K.X k j).size : Int) + ((K.Y k j).size : Int)
                        · go_wp2
                          go_ret
                          exact guard_no rfl (Below.refl _ _)
                        · skip
                          by_cases e5 : (1048576 : Int) < ((K.Z k j).size : Int)
                          · go_wp2
                            go_ret
                            exact guard_no rfl (Below.refl _ _)
                          · skip
                            by_cases e6 : (1048576 : Int) < t + ((K.X k j).size : Int) + ((K.Y k j).size : Int) + ((K.Z k j).size : Int)
                            · go_wp2
                              go_ret
                              exact guard_no rfl (Below.refl _ _)
                            · skip
                              go_wp2
                              go_round
                              case rel => exact ⟨j + 1, t + (K.X k j).size + (K.Y k j).size + (K.Z k j).size, by omega, by go_num, by go_num, by omega, by omega⟩
                              case measure => simp [intOf]; omega
                · clear g4
                  go_wp2
                  go_round
                  case rel => exact ⟨k + 1, t, by omega, by go_num, rfl, t0, t1⟩
                  case measure => simp [intOf]; omega
    · clear q hL
      go_wp2
      go_ret
      exact guard_yes trivial rfl (Below.refl _ _)

end Go.Proofs.Qxb6632535a
