/-
  SEAT b6632426a: labelBytes and the byte guards by their contracts: what they answer is left open but for bounds.
-/
import Derived.Test.Qxb6632426aCompare
namespace Go.Proofs.Qxb6632426a
open Go.RowKit Go.Proofs.Qxb6632426a.Plain

set_option maxHeartbeats 1000000 in
theorem labelBytes_any (t : Int) (a : Option Addr) (n c : Nat) (N V : Nat → ByteArray) (w : World) (hn : n ≤ 4194304) (h : LV w a n N V) (t0 : 0 ≤ t) (t1 : t ≤ 1073741824) :
    Calls Try.prog 6 #[.int .i64 t, .slice a n c] w fun e w' => ∃ r : Int, e = .returned (.int .i64 r) ∧ 0 ≤ r ∧ r ≤ 1073741824 ∧ w' = w := by
  go_enter Try.func6, Try.ntmps6
  go_wp2
  go_loop [0, 5, 6, 7] (fun s i _ _ => ∃ (k : Nat) (t : Int), k ≤ n ∧ i = .int .i64 k ∧ s = .int .i64 t ∧ 0 ≤ t ∧ t ≤ 1073741824) (fun _ i _ _ => n - (intOf i).toNat)
  case atStart => exact ⟨0, t, Nat.zero_le _, rfl, rfl, t0, t1⟩
  case round =>
    obtain ⟨k, t, hkn, rfl, rfl, t0, t1⟩ := hrel
    by_cases h1 : k < n
    · obtain ⟨b, off, rfl, hc⟩ := h.resolve_left (by omega)
      obtain ⟨g1, g2⟩ := hc k h1
      clear hc h
      by_cases c0 : 1048576 < t
      · go_wp2
        go_ret
        exact ⟨_, rfl, t0, t1, rfl⟩
      · by_cases c1 : (1048576 : Int) < ((N k).size : Int)
        · go_wp2
          go_ret
          exact ⟨_, rfl, by decide, by decide, rfl⟩
        · by_cases c2 : (1048576 : Int) < ((V k).size : Int)
          · go_wp2
            go_ret
            exact ⟨_, rfl, by decide, by decide, rfl⟩
          · go_wp2
            go_round
            case rel => exact ⟨k + 1, t + 32 + (N k).size + (V k).size, by omega, by go_num, by go_num, by omega, by omega⟩
            case measure => simp [intOf]; omega
    · go_wp2
      go_ret
      exact ⟨_, rfl, t0, t1, rfl⟩

/-- a bool comes back; where it is true, p holds; the world is as it was -/
def GuardPost (w : World) (p : Prop) (e : Ending) (w' : World) : Prop := ∃ r : Bool, e = .returned (.bool r) ∧ (r = true → p) ∧ w' = w
theorem guard_no {w w' : World} {p : Prop} {e : Ending} (he : e = .returned (.bool false)) (hw : w' = w) : GuardPost w p e w' := ⟨false, he, (fun h => by cases h), hw⟩
theorem guard_yes {w w' : World} {p : Prop} {e : Ending} (hp : p) (he : e = .returned (.bool true)) (hw : w' = w) : GuardPost w p e w' := ⟨true, he, fun _ => hp, hw⟩

set_option maxHeartbeats 4000000 in
set_option maxRecDepth 100000 in
theorem zzBytes11_any (a1 a2 a3 : Option Addr) (n1 n2 n3 k1 k2 k3 : Nat) (N1 V1 N2 V2 N3 V3 : Nat → ByteArray) (w : World) (m1 : n1 ≤ 9223372036854775807) (m2 : n2 ≤ 9223372036854775807) (m3 : n3 ≤ 9223372036854775807) (q1 : LV w a1 n1 N1 V1) (q2 : LV w a2 n2 N2 V2) (q3 : LV w a3 n3 N3 V3) :
    Calls Try.prog 11 #[.slice a1 n1 k1, .slice a2 n2 k2, .slice a3 n3 k3] w fun e w' => GuardPost w (n1 ≤ 1048576 ∧ n2 ≤ 1048576 ∧ n3 ≤ 1048576) e w' := by
  by_cases d0 : 1048576 < ((n1 : Nat) : Int)
  · go_enter Try.func11, Try.ntmps11
    go_wp2
    go_ret
    exact guard_no rfl rfl
  go_enter Try.func11, Try.ntmps11
  go_wp2
  go_loop [7, 8] (fun s i => ∃ (k : Nat) (t : Int), k ≤ n1 ∧ i = .int .i64 k ∧ s = .int .i64 t ∧ 0 ≤ t ∧ t ≤ 1048576) (fun _ i => n1 - (intOf i).toNat)
  case atStart => exact ⟨0, _, Nat.zero_le _, rfl, rfl, by omega, by omega⟩
  case round =>
    obtain ⟨k, t, hkn, rfl, rfl, t0, t1⟩ := hrel
    by_cases h1 : k < n1
    · obtain ⟨b, off, rfl, hc⟩ := q1.resolve_left (by omega)
      obtain ⟨g1, g2⟩ := hc k h1
      clear hc q1
      by_cases c1 : (1048576 : Int) < ((N1 k).size : Int)
      · go_wp2
        go_ret
        exact guard_no rfl rfl
      · by_cases c2 : (1048576 : Int) < t + ((N1 k).size : Int)
        · go_wp2
          go_ret
          exact guard_no rfl rfl
        · by_cases c3 : (1048576 : Int) < ((V1 k).size : Int)
          · go_wp2
            go_ret
            exact guard_no rfl rfl
          · by_cases c4 : (1048576 : Int) < t + ((N1 k).size : Int) + ((V1 k).size : Int)
            · go_wp2
              go_ret
              exact guard_no rfl rfl
            · go_wp2
              go_round
              case rel => exact ⟨k + 1, t + (N1 k).size + (V1 k).size, by omega, by go_num, by go_num, by omega, by omega⟩
              case measure => simp [intOf]; omega
    · clear q1
      by_cases d1 : 1048576 < ((n2 : Nat) : Int)
      · go_wp2
        go_ret
        exact guard_no rfl rfl
      by_cases d2 : 1048576 < t + ((n2 : Nat) : Int)
      · go_wp2
        go_ret
        exact guard_no rfl rfl
      go_wp2
      go_loop [7, 9] (fun s i => ∃ (k : Nat) (t : Int), k ≤ n2 ∧ i = .int .i64 k ∧ s = .int .i64 t ∧ 0 ≤ t ∧ t ≤ 1048576) (fun _ i => n2 - (intOf i).toNat)
      case atStart => exact ⟨0, _, Nat.zero_le _, rfl, rfl, by omega, by omega⟩
      case round =>
        obtain ⟨k, t, hkn, rfl, rfl, t0, t1⟩ := hrel
        by_cases h1 : k < n2
        · obtain ⟨b, off, rfl, hc⟩ := q2.resolve_left (by omega)
          obtain ⟨g1, g2⟩ := hc k h1
          clear hc q2
          by_cases c1 : (1048576 : Int) < ((N2 k).size : Int)
          · go_wp2
            go_ret
            exact guard_no rfl rfl
          · by_cases c2 : (1048576 : Int) < t + ((N2 k).size : Int)
            · go_wp2
              go_ret
              exact guard_no rfl rfl
            · by_cases c3 : (1048576 : Int) < ((V2 k).size : Int)
              · go_wp2
                go_ret
                exact guard_no rfl rfl
              · by_cases c4 : (1048576 : Int) < t + ((N2 k).size : Int) + ((V2 k).size : Int)
                · go_wp2
                  go_ret
                  exact guard_no rfl rfl
                · go_wp2
                  go_round
                  case rel => exact ⟨k + 1, t + (N2 k).size + (V2 k).size, by omega, by go_num, by go_num, by omega, by omega⟩
                  case measure => simp [intOf]; omega
        · clear q2
          by_cases d1 : 1048576 < ((n3 : Nat) : Int)
          · go_wp2
            go_ret
            exact guard_no rfl rfl
          by_cases d2 : 1048576 < t + ((n3 : Nat) : Int)
          · go_wp2
            go_ret
            exact guard_no rfl rfl
          go_wp2
          go_loop [7, 10] (fun s i => ∃ (k : Nat) (t : Int), k ≤ n3 ∧ i = .int .i64 k ∧ s = .int .i64 t ∧ 0 ≤ t ∧ t ≤ 1048576) (fun _ i => n3 - (intOf i).toNat)
          case atStart => exact ⟨0, _, Nat.zero_le _, rfl, rfl, by omega, by omega⟩
          case round =>
            obtain ⟨k, t, hkn, rfl, rfl, t0, t1⟩ := hrel
            by_cases h1 : k < n3
            · obtain ⟨b, off, rfl, hc⟩ := q3.resolve_left (by omega)
              obtain ⟨g1, g2⟩ := hc k h1
              clear hc q3
              by_cases c1 : (1048576 : Int) < ((N3 k).size : Int)
              · go_wp2
                go_ret
                exact guard_no rfl rfl
              · by_cases c2 : (1048576 : Int) < t + ((N3 k).size : Int)
                · go_wp2
                  go_ret
                  exact guard_no rfl rfl
                · by_cases c3 : (1048576 : Int) < ((V3 k).size : Int)
                  · go_wp2
                    go_ret
                    exact guard_no rfl rfl
                  · by_cases c4 : (1048576 : Int) < t + ((N3 k).size : Int) + ((V3 k).size : Int)
                    · go_wp2
                      go_ret
                      exact guard_no rfl rfl
                    · go_wp2
                      go_round
                      case rel => exact ⟨k + 1, t + (N3 k).size + (V3 k).size, by omega, by go_num, by go_num, by omega, by omega⟩
                      case measure => simp [intOf]; omega
            · clear q3
              go_wp2
              go_ret
              exact guard_yes ⟨by omega, by omega, by omega⟩ rfl rfl

end Go.Proofs.Qxb6632426a
