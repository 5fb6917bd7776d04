/-
  SEAT b6632535a: ZZcommittedFirst, ZZnewStatement, zzSame by their contracts.
-/
import Derived.Test.Qxb6632535aViews
import Derived.Deep.RegionHeld3
namespace Go.Proofs.Qxb6632535a
open Go.RowKit

theorem committedFirst_any (S : ByteArray) (A : Option Addr) (L cp : Nat) (C : Bool) (w : World) :
    Calls Try.prog 10 #[.agg #[.string S, .slice A L cp, .bool C]] w fun e w' => e = .returned (.bool C) ∧ w' = w.alloc (.cells #[.string S, .slice A L cp, .bool C] 32) := by
  go_enter Try.func10, Try.ntmps10
  go_wp2
  go_ret
  exact ⟨rfl, rfl⟩

theorem newStatement_any (S : ByteArray) (A : Option Addr) (L cp : Nat) (C : Bool) (w : World) :
    Calls Try.prog 12 #[.string S, .slice A L cp, .bool C] w fun e w' => e = .returned (.agg #[.string S, .slice A L cp, .bool C]) ∧ w' = w.alloc (.cells #[.string S, .slice A L cp, .bool C] 32) := by
  go_enter Try.func12, Try.ntmps12
  go_wp2
  exact bodyPost_ret (v := .agg #[.string S, .slice A L cp, .bool C]) (by simp [results, Try.results12, go_sem]) rfl ⟨rfl, rfl⟩

set_option maxHeartbeats 1000000 in
theorem zzSame_any (S : ByteArray) (A A' : Option Addr) (L cp cp' : Nat) (C : Bool) (X Y Z : Nat → ByteArray) (w : World) (hL : L ≤ 1048576) (h : HV w 0 A L X Y Z) (h' : HV w 0 A' L X Y Z) :
    Calls Try.prog 9 #[.agg #[.string S, .slice A L cp, .bool C], .agg #[.string S, .slice A' L cp', .bool C]] w fun e w' => e = .returned (.bool true) ∧ Below w.heap.size w w' := by
  go_enter Try.func9, Try.ntmps9
  go_wp2
  obtain ⟨B, hB⟩ : ∃ B : Nat, B = w.heap.size := ⟨_, rfl⟩
  have HB : Hid (B = w.heap.size) := hB
  obtain ⟨w1, hw1⟩ : ∃ x : World, x = (w.alloc (.cells #[.string S, .slice A L cp, .bool C] 32)).alloc (.cells #[.string S, .slice A' L cp', .bool C] 35) := ⟨_, rfl⟩
  have a0 : w1.cell? ⟨B, 0, none⟩ = some (.string S) := by rw [hw1, hB]; simp
  have a1 : w1.cell? ⟨B, 1, none⟩ = some (.slice A L cp) := by rw [hw1, hB]; simp
  have a2 : w1.cell? ⟨B, 2, none⟩ = some (.bool C) := by rw [hw1, hB]; simp
  have b1 : w1.cell? ⟨B + 1, 1, none⟩ = some (.slice A' L cp') := by rw [hw1, hB]; simp
  have b2 : w1.cell? ⟨B + 1, 2, none⟩ = some (.bool C) := by rw [hw1, hB]; simp
  have hbel : Below B w w1 := by rw [hw1, hB]; exact ((Below.refl _ _).alloc (Nat.le_refl _) _).alloc (by simp) _
  have hsz : B + 2 ≤ w1.heap.size := by rw [hw1, hB]; simp
  rw [← hw1, ← hB]
  clear hw1 hB
  go_region_held3 (fun w' => w'.cell? ⟨B, 0, none⟩ = some (.string S) ∧ w'.cell? ⟨B, 1, none⟩ = some (.slice A L cp) ∧ w'.cell? ⟨B, 2, none⟩ = some (.bool C) ∧ w'.cell? ⟨B + 1, 1, none⟩ = some (.slice A' L cp') ∧ w'.cell? ⟨B + 1, 2, none⟩ = some (.bool C)) (go_keep)
    ((go_at_call 10; refine (committedFirst_any _ _ _ _ _ _).mono ?_; rintro e w' ⟨rfl, rfl⟩))
  go_wp2
  go_loopw [5] (fun i wr => ∃ j : Nat, j ≤ L ∧ i = .int .i64 j ∧ Below (B + 2) w1 wr) (fun i _ => L - (intOf i).toNat)
  case atStart => exact ⟨0, Nat.zero_le _, rfl, ((Below.refl _ _).alloc hsz _).drew⟩
  case round =>
    obtain ⟨j, hj, rfl, hb⟩ := hrel
    have r1 := (hb.cell (p := ⟨B, 1, none⟩) (by show B < B + 2; omega)).trans a1
    have r2 := (hb.cell (p := ⟨B + 1, 1, none⟩) (by show B + 1 < B + 2; omega)).trans b1
    by_cases h1 : j < L
    · obtain ⟨b, off, rfl, _, hc⟩ := h.resolve_left (by omega)
      obtain ⟨b', off', rfl, _, hc'⟩ := h'.resolve_left (by omega)
      obtain ⟨g1, g2, g3⟩ := hc j h1
      obtain ⟨g1', g2', g3'⟩ := hc' j h1
      have pb : b < B := by rw [HB.out]; exact cell_block g1
      have pb' : b' < B := by rw [HB.out]; exact cell_block g1'
      have s1 := ((hb.cell (p := ⟨b, off + j * 3, none⟩) (by show b < B + 2; omega)).trans (hbel.cell pb)).trans g1
      have s2 := ((hb.cell (p := ⟨b, off + j * 3 + 1, none⟩) (by show b < B + 2; omega)).trans (hbel.cell pb)).trans g2
      have s3 := ((hb.cell (p := ⟨b, off + j * 3 + 2, none⟩) (by show b < B + 2; omega)).trans (hbel.cell pb)).trans g3
      have t1 := ((hb.cell (p := ⟨b', off' + j * 3, none⟩) (by show b' < B + 2; omega)).trans (hbel.cell pb')).trans g1'
      have t2 := ((hb.cell (p := ⟨b', off' + j * 3 + 1, none⟩) (by show b' < B + 2; omega)).trans (hbel.cell pb')).trans g2'
      have t3 := ((hb.cell (p := ⟨b', off' + j * 3 + 2, none⟩) (by show b' < B + 2; omega)).trans (hbel.cell pb')).trans g3'
      clear h h' hc hc' g1 g2 g3 g1' g2' g3' a0 a1 a2 b1 b2 hbel hsz
      go_wp2
      go_quiet (fail)
      go_wp2
      go_quiet (fail)
      go_wp2
      go_quiet (fail)
      go_wp2
      go_roundw
      case rel => exact ⟨j + 1, by omega, by go_num, below_drewN hb _⟩
      case measure => simp [intOf]; omega
    · clear h h'
      go_wp2
      go_ret
      exact ⟨rfl, HB.out ▸ (hbel.trans (hb.mono (by omega)))⟩

end Go.Proofs.Qxb6632535a
