/-
  SEAT b6632628a: Outline.At by its contract.
-/
import Derived.Test.Qxb6632628aMake
namespace Go.Proofs.Qxb6632628a
open Go.RowKit Go.Proofs.Qxb6632628a.Plain

def bv (o : Option Nat) : Int := match o with | none => -1 | some b => (b : Int)

theorem ret_string {a b : ByteArray} (h : a = b) : Ending.returned (.string a) = .returned (.string b) := by rw [h]

set_option maxHeartbeats 1000000 in
theorem at_any (a : Option Addr) (n c : Nat) (x : Int) (S : Nat → ByteArray) (F L : Nat → Int) (w : World) (hn : n ≤ 1048576) (h : DV w a n S F L) :
    Calls Try.prog 8 #[.slice a n c, .int .i64 x] w fun e w' => e = .returned (.string (nm S (best F L x n))) ∧ Below w.heap.size w w' := by
  obtain ⟨B, hB⟩ : ∃ B : Nat, B = w.heap.size := ⟨_, rfl⟩
  have HB : Hid (B = w.heap.size) := hB
  clear hB
  go_enter Try.func8, Try.ntmps8
  go_wp2
  go_loopw [5, 6, 7, 10] (fun s _ _ i wr => ∃ k : Nat, k ≤ n ∧ i = .int .i64 k ∧ s = .int .i64 (bv (best F L x k)) ∧ Below B w wr) (fun _ _ _ i _ => n - (intOf i).toNat)
  case atStart => exact ⟨0, Nat.zero_le _, rfl, rfl, Below.refl _ _⟩
  case round =>
    obtain ⟨k, hkn, rfl, rfl, hbel⟩ := hrel
    have hs := hbel.size
    have HS : Hid (B ≤ wr.heap.size) := by show _ ≤ _; rw [HB.out]; exact hs
    clear hs
    by_cases h1 : k < n
    · obtain ⟨b, off, rfl, hc⟩ := h.resolve_left (by omega)
      obtain ⟨g1, g2, g3⟩ := hc k h1
      have pb : b < B := by rw [HB.out]; exact cell_block g1
      have r1 := (hbel.cell (p := ⟨b, off + k * 3, none⟩) pb).trans g1
      have r2 := (hbel.cell (p := ⟨b, off + k * 3 + 1, none⟩) pb).trans g2
      have r3 := (hbel.cell (p := ⟨b, off + k * 3 + 2, none⟩) pb).trans g3
      clear g1 g2 g3
      by_cases c1 : F k ≤ x
      · by_cases c2 : x ≤ L k
        · cases ho : best F L x k with
          | none =>
            have HE : Hid (best F L x (k + 1) = some k) := best_take (sp_yes c1 c2) (by rw [ho]; rfl)
            have hz : bv none = -1 := rfl
            rw [hz]
            clear h hc ho hz
            go_wp2
            go_quiet (fail)
            go_wp2
            go_roundw
            case rel => exact ⟨k + 1, by omega, by go_num, by rw [HE.out]; rfl, below_drewN (hbel.alloc HS.out _) _⟩
            case measure => simp [intOf]; omega
          | some j =>
            have hj := (best_some k j ho).lt
            have hz : bv (some j) = (j : Int) := rfl
            obtain ⟨_, g2, _⟩ := hc j (by omega)
            have r4 := (hbel.cell (p := ⟨b, off + j * 3 + 1, none⟩) pb).trans g2
            have r5 : ∀ O, (wr.alloc O).cell? ⟨b, off + j * 3 + 1, none⟩ = some (.int .i64 (F j)) := fun O => (World.cell?_of_block (w := wr) (Below.heap_alloc wr O b (cell_block r4))).trans r4
            have hj0 : (0 : Int) ≤ (j : Int) := by omega
            have hjn : (j : Int) < (n : Int) := by omega
            have hjz : decide ((j : Int) < 0) = false := by simp
            by_cases c3 : F j < F k
            · have HE : Hid (best F L x (k + 1) = some k) := best_take (sp_yes c1 c2) (by rw [ho]; simpa [beat] using c3)
              rw [hz]
              clear h hc ho hz g2
              go_wp2
              go_quiet (fail)
              go_wp2
              go_roundw
              case rel => exact ⟨k + 1, by omega, by go_num, by rw [HE.out]; rfl, below_drewN (hbel.alloc HS.out _) _⟩
              case measure => simp [intOf]; omega
            · have HE : Hid (best F L x (k + 1) = some j) := (best_keep (by rw [ho]; simpa [beat] using c3)).trans ho
              rw [hz]
              clear h hc ho hz g2
              go_wp2
              go_quiet (fail)
              go_wp2
              go_roundw
              case rel => exact ⟨k + 1, by omega, by go_num, by rw [HE.out]; rfl, below_drewN (hbel.alloc HS.out _) _⟩
              case measure => simp [intOf]; omega
        · have HE : Hid (best F L x (k + 1) = best F L x k) := best_skip (sp_hi c2)
          have d2 : decide (x ≤ L k) = false := by simpa using c2
          clear h hc
          go_wp2
          go_quiet (fail)
          go_wp2
          go_roundw
          case rel => exact ⟨k + 1, by omega, by go_num, by rw [HE.out], below_drewN (hbel.alloc HS.out _) _⟩
          case measure => simp [intOf]; omega
      · have HE : Hid (best F L x (k + 1) = best F L x k) := best_skip (sp_lo c1)
        have d1 : decide (F k ≤ x) = false := by simpa using c1
        clear h hc
        go_wp2
        go_quiet (fail)
        go_wp2
        go_roundw
        case rel => exact ⟨k + 1, by omega, by go_num, by rw [HE.out], below_drewN (hbel.alloc HS.out _) _⟩
        case measure => simp [intOf]; omega
    · obtain rfl : k = n := by omega
      cases ho : best F L x k with
      | none =>
        have hz : bv none = -1 := rfl
        have HE : Hid (nm S (best F L x k) = ByteArray.empty) := by show _ = _; rw [ho]; rfl
        rw [hz]
        clear h ho hz
        go_wp2
        go_ret
        exact ⟨ret_string HE.out.symm, HB.out ▸ hbel⟩
      | some j =>
        have hj := (best_some k j ho).lt
        have hz : bv (some j) = (j : Int) := rfl
        obtain ⟨b, off, rfl, hc⟩ := h.resolve_left (by omega)
        obtain ⟨g1, _, _⟩ := hc j (by omega)
        have pb : b < B := by rw [HB.out]; exact cell_block g1
        have r4 := (hbel.cell (p := ⟨b, off + j * 3, none⟩) pb).trans g1
        have HE : Hid (nm S (best F L x k) = S j) := by show _ = _; rw [ho]; rfl
        rw [hz]
        clear h hc ho hz g1
        go_wp2
        go_ret
        exact ⟨ret_string HE.out.symm, HB.out ▸ hbel⟩

end Go.Proofs.Qxb6632628a
