/-
  SEAT b6632628a: what the walks are told of a slice of definitions; the guards, toOutlineB1, spansB1 by their contracts.
-/
import Derived.Test.Qxb6632628aRows
import Derived.Test.Qxb6632628aPlain
import Derived.WalkKit
import Derived.WalkSpells
import Derived.WalkLawsBesides
import Derived.Deep.OwnRows
import Derived.Deep.QuietTactic
import Derived.BigQuiet
import Derived.Lib.SliceRun
import Derived.ArgAppend
namespace Go.Proofs.Qxb6632628a
open Go.RowKit Go.Proofs.Qxb6632628a.Plain

/-- A SLICE OF n DEFINITIONS (S i, F i, L i): it is empty; or its cells lie at an address. -/
def DV (w : World) (a : Option Addr) (n : Nat) (S : Nat → ByteArray) (F L : Nat → Int) : Prop :=
  n = 0 ∨ ∃ b off, a = some ⟨b, off, none⟩ ∧ ∀ i, i < n → w.cell? ⟨b, off + i * 3, none⟩ = some (.string (S i)) ∧ w.cell? ⟨b, off + i * 3 + 1, none⟩ = some (.int .i64 (F i)) ∧ w.cell? ⟨b, off + i * 3 + 2, none⟩ = some (.int .i64 (L i))

theorem cell_block {w : World} {p : Addr} {v : Value} (h : w.cell? p = some v) : p.block < w.heap.size := by
  cases hb : w.heap[p.block]? with
  | none => simp [World.cell?, hb] at h
  | some o => exact (Array.getElem?_eq_some_iff.1 hb).1

theorem DV.below {w w' : World} {a : Option Addr} {n : Nat} {S : Nat → ByteArray} {F L : Nat → Int} (h : DV w a n S F L) (hb : Below w.heap.size w w') : DV w' a n S F L := by
  rcases h with h | ⟨b, off, ha, hc⟩
  · exact .inl h
  · refine .inr ⟨b, off, ha, fun i hi => ?_⟩
    obtain ⟨h1, h2, h3⟩ := hc i hi
    exact ⟨(hb.cell (cell_block h1)).trans h1, (hb.cell (cell_block h2)).trans h2, (hb.cell (cell_block h3)).trans h3⟩

/-- a bool comes back; where it is true, p holds; the world is as it was -/
def GuardPost (w : World) (p : Prop) (e : Ending) (w' : World) : Prop := ∃ r : Bool, e = .returned (.bool r) ∧ (r = true → p) ∧ w' = w
theorem guard_no {w w' : World} {p : Prop} {e : Ending} (he : e = .returned (.bool false)) (hw : w' = w) : GuardPost w p e w' := ⟨false, he, (fun h => by cases h), hw⟩
theorem guard_yes {w w' : World} {p : Prop} {e : Ending} (hp : p) (he : e = .returned (.bool true)) (hw : w' = w) : GuardPost w p e w' := ⟨true, he, fun _ => hp, hw⟩

set_option maxHeartbeats 1000000 in
theorem zzBytes5_any (a : Option Addr) (n c : Nat) (x : Int) (S : Nat → ByteArray) (F L : Nat → Int) (w : World) (m1 : n ≤ 9223372036854775807) (q : DV w a n S F L) :
    Calls Try.prog 5 #[.slice a n c, .int .i64 x] w fun e w' => GuardPost w True e w' := by
  by_cases d0 : 1048576 < ((n : Nat) : Int)
  · go_enter Try.func5, Try.ntmps5
    go_wp2
    go_ret
    exact guard_no rfl rfl
  go_enter Try.func5, Try.ntmps5
  go_wp2
  go_loop [5, 6] (fun s i => ∃ (k : Nat) (t : Int), k ≤ n ∧ i = .int .i64 k ∧ s = .int .i64 t ∧ 0 ≤ t ∧ t ≤ 1048576) (fun _ i => n - (intOf i).toNat)
  case atStart => exact ⟨0, _, Nat.zero_le _, rfl, rfl, by omega, by omega⟩
  case round =>
    obtain ⟨k, t, hkn, rfl, rfl, t0, t1⟩ := hrel
    by_cases h1 : k < n
    · obtain ⟨b, off, rfl, hc⟩ := q.resolve_left (by omega)
      obtain ⟨g1, g2, g3⟩ := hc k h1
      clear hc q
      by_cases c1 : (1048576 : Int) < ((S k).size : Int)
      · go_wp2
        go_ret
        exact guard_no rfl rfl
      · by_cases c2 : (1048576 : Int) < t + ((S k).size : Int)
        · go_wp2
          go_ret
          exact guard_no rfl rfl
        · go_wp2
          go_round
          case rel => exact ⟨k + 1, t + (S k).size, by omega, by go_num, by go_num, by omega, by omega⟩
          case measure => simp [intOf]; omega
    · clear q
      go_wp2
      go_ret
      exact guard_yes trivial rfl rfl

set_option maxHeartbeats 1000000 in
theorem zzBytes10_any (a : Option Addr) (n c : Nat) (x p : Int) (nam : ByteArray) (fi la : Int) (S : Nat → ByteArray) (F L : Nat → Int) (w : World) (m1 : n ≤ 9223372036854775807) (q : DV w a n S F L) :
    Calls Try.prog 10 #[.slice a n c, .int .i64 x, .int .i64 p, .string nam, .int .i64 fi, .int .i64 la] w fun e w' => GuardPost w True e w' := by
  by_cases d0 : 1048576 < ((n : Nat) : Int)
  · go_enter Try.func10, Try.ntmps10
    go_wp2
    go_ret
    exact guard_no rfl rfl
  go_enter Try.func10, Try.ntmps10
  go_wp2
  go_loop [13, 14] (fun s i => ∃ (k : Nat) (t : Int), k ≤ n ∧ i = .int .i64 k ∧ s = .int .i64 t ∧ 0 ≤ t ∧ t ≤ 1048576) (fun _ i => n - (intOf i).toNat)
  case atStart => exact ⟨0, _, Nat.zero_le _, rfl, rfl, by omega, by omega⟩
  case round =>
    obtain ⟨k, t, hkn, rfl, rfl, t0, t1⟩ := hrel
    by_cases h1 : k < n
    · obtain ⟨b, off, rfl, hc⟩ := q.resolve_left (by omega)
      obtain ⟨g1, g2, g3⟩ := hc k h1
      clear hc q
      by_cases c1 : (1048576 : Int) < ((S k).size : Int)
      · go_wp2
        go_ret
        exact guard_no rfl rfl
      · by_cases c2 : (1048576 : Int) < t + ((S k).size : Int)
        · go_wp2
          go_ret
          exact guard_no rfl rfl
        · go_wp2
          go_round
          case rel => exact ⟨k + 1, t + (S k).size, by omega, by go_num, by go_num, by omega, by omega⟩
          case measure => simp [intOf]; omega
    · clear q
      by_cases c1 : (1048576 : Int) < (nam.size : Int)
      · go_wp2
        go_ret
        exact guard_no rfl rfl
      · by_cases c2 : (1048576 : Int) < t + (nam.size : Int)
        · go_wp2
          go_ret
          exact guard_no rfl rfl
        · go_wp2
          go_ret
          exact guard_yes trivial rfl rfl

set_option maxHeartbeats 1000000 in
theorem fits_any (a : Option Addr) (n c : Nat) (ex : ByteArray) (S : Nat → ByteArray) (F L : Nat → Int) (w : World) (m1 : n ≤ 9223372036854775807) (q : DV w a n S F L) :
    Calls Try.prog 6 #[.slice a n c, .string ex] w fun e w' => GuardPost w (n ≤ 4096) e w' := by
  by_cases d0 : 4096 < ((n : Nat) : Int)
  · go_enter Try.func6, Try.ntmps6
    go_wp2
    go_ret
    exact guard_no rfl rfl
  by_cases d1 : 65536 < (ex.size : Int)
  · go_enter Try.func6, Try.ntmps6
    go_wp2
    go_ret
    exact guard_no rfl rfl
  go_enter Try.func6, Try.ntmps6
  go_wp2
  go_loop [5, 6, 7] (fun s i _ => ∃ (k : Nat) (t : Int), k ≤ n ∧ i = .int .i64 k ∧ s = .int .i64 t ∧ 0 ≤ t ∧ t ≤ 1048576) (fun _ i _ => n - (intOf i).toNat)
  case atStart => exact ⟨0, _, Nat.zero_le _, rfl, rfl, by omega, by omega⟩
  case round =>
    obtain ⟨k, t, hkn, rfl, rfl, t0, t1⟩ := hrel
    by_cases h1 : k < n
    · obtain ⟨b, off, rfl, hc⟩ := q.resolve_left (by omega)
      obtain ⟨g1, g2, g3⟩ := hc k h1
      clear hc q
      by_cases c1 : (1048576 : Int) < ((S k).size : Int)
      · go_wp2
        go_ret
        exact guard_no rfl rfl
      · by_cases c2 : (1048576 : Int) < t + 24 + ((S k).size : Int)
        · go_wp2
          go_ret
          exact guard_no rfl rfl
        · go_wp2
          go_round
          case rel => exact ⟨k + 1, t + 24 + (S k).size, by omega, by go_num, by go_num, by omega, by omega⟩
          case measure => simp [intOf]; omega
    · clear q
      go_wp2
      go_ret
      exact guard_yes (by omega) rfl rfl

/-- spansB1 -/
theorem spans_any (S : ByteArray) (f l x : Int) (w : World) :
    Calls Try.prog 9 #[.agg #[.string S, .int .i64 f, .int .i64 l], .int .i64 x] w fun e w' => e = .returned (.bool (decide (f ≤ x) && decide (x ≤ l))) ∧ w' = w.alloc (.cells #[.string S, .int .i64 f, .int .i64 l] 31) := by
  by_cases h1 : f ≤ x
  · by_cases h2 : x ≤ l
    · go_enter Try.func9, Try.ntmps9
      go_wp2
      go_ret
      exact ⟨by simp [h1, h2], rfl⟩
    · go_enter Try.func9, Try.ntmps9
      go_wp2
      go_ret
      exact ⟨by simp [h2], rfl⟩
  · go_enter Try.func9, Try.ntmps9
    go_wp2
    go_ret
    exact ⟨by simp; intro h; omega, rfl⟩

end Go.Proofs.Qxb6632628a
