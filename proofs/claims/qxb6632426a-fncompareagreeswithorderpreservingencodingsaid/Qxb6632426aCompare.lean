/-
  SEAT b6632426a: what the walk is told of a slice of label pairs; strings.Compare and storage.Compare by their contracts.
-/
import Derived.Test.Qxb6632426aRows
import Derived.Test.Qxb6632426aPlain
import Derived.WalkKit
import Derived.WalkSpells
import Derived.WalkLawsBesides
import Derived.Deep.OwnRows
import Derived.Deep.QuietTactic
import Derived.BigQuiet
import Derived.Lib.Bytealg
namespace Go.Proofs.Qxb6632426a
open Go.RowKit Go.Proofs.Qxb6632426a.Plain

/-- THE SLICE HAS n ELEMENTS, THE PAIRS OF STRINGS (N i, V i): it is empty; or its cells lie at an address. -/
def LV (w : World) (a : Option Addr) (n : Nat) (N V : Nat → ByteArray) : Prop :=
  n = 0 ∨ ∃ b off, a = some ⟨b, off, none⟩ ∧ ∀ i, i < n → w.cell? ⟨b, off + i * 2, none⟩ = some (.string (N i)) ∧ w.cell? ⟨b, off + i * 2 + 1, none⟩ = some (.string (V i))

theorem cell_block {w : World} {p : Addr} {v : Value} (h : w.cell? p = some v) : p.block < w.heap.size := by
  cases hb : w.heap[p.block]? with
  | none => simp [World.cell?, hb] at h
  | some o => exact (Array.getElem?_eq_some_iff.1 hb).1

theorem LV.below {w w' : World} {a : Option Addr} {n : Nat} {N V : Nat → ByteArray} (h : LV w a n N V) (hb : Below w.heap.size w w') : LV w' a n N V := by
  rcases h with h | ⟨b, off, ha, hc⟩
  · exact .inl h
  · refine .inr ⟨b, off, ha, fun i hi => ?_⟩
    obtain ⟨h1, h2⟩ := hc i hi
    exact ⟨(hb.cell (cell_block h1)).trans h1, (hb.cell (cell_block h2)).trans h2⟩

def bs (N : Nat → ByteArray) : Nat → Bs := fun i => (N i).data.toList

set_option maxHeartbeats 1000000 in
set_option maxRecDepth 100000 in
theorem bytealg_CompareString (a b : ByteArray) (w : World) :
    Calls Try.prog 15 #[.string a, .string b] w fun e w' => e = .returned (.int .i64 (Lib.compareBytes a.data.toList b.data.toList)) ∧ w' = w := by
  go_enter Try.func15, Try.ntmps15
  go_wp2
  rw [run_callFunc_extern Try.func16 (by kernel_rfl) (by kernel_rfl) (by kernel_rfl) (e := Extern.BytealgCompare.compare) (by kernel_rfl), Lib.run_compareString]
  simp only [Result.andThen]
  rw [Oper.upon_value]
  go_wp2
  go_ret
  exact ⟨rfl, rfl⟩

theorem strings_Compare (a b : ByteArray) (w : World) :
    Calls Try.prog 14 #[.string a, .string b] w fun e w' => e = .returned (.int .i64 (Lib.compareBytes a.data.toList b.data.toList)) ∧ w' = w := by
  go_enter Try.func14, Try.ntmps14
  go_wp2_with (go_at_call 15; refine (bytealg_CompareString _ _ _).mono ?_; rintro e w' ⟨rfl, rfl⟩)
  go_ret
  exact ⟨rfl, rfl⟩

theorem ret_int {k : IntKind} {a b : Int} (h : a = b) : Ending.returned (.int k a) = .returned (.int k b) := by rw [h]
theorem cmpF_step0 {n m : Nat} {N V N' V' : Nat → Bs} {k : Nat} (h1 : k < n) (h2 : k < m) (c1 : Lib.compareBytes (N k) (N' k) ≠ 0) : cmpF n m N V N' V' (min n m - k) k = Lib.compareBytes (N k) (N' k) := by
  obtain ⟨d, hd⟩ : ∃ d, min n m - k = d + 1 := ⟨min n m - k - 1, by omega⟩
  rw [hd, cmpF, if_neg c1]
theorem cmpF_step1 {n m : Nat} {N V N' V' : Nat → Bs} {k : Nat} (h1 : k < n) (h2 : k < m) (c1 : Lib.compareBytes (N k) (N' k) = 0) (c2 : Lib.compareBytes (V k) (V' k) ≠ 0) : cmpF n m N V N' V' (min n m - k) k = Lib.compareBytes (V k) (V' k) := by
  obtain ⟨d, hd⟩ : ∃ d, min n m - k = d + 1 := ⟨min n m - k - 1, by omega⟩
  rw [hd, cmpF, if_pos c1, if_neg c2]
theorem cmpF_step2 {n m : Nat} {N V N' V' : Nat → Bs} {k : Nat} (h1 : k < n) (h2 : k < m) (c1 : Lib.compareBytes (N k) (N' k) = 0) (c2 : Lib.compareBytes (V k) (V' k) = 0) : cmpF n m N V N' V' (min n m - k) k = cmpF n m N V N' V' (min n m - (k + 1)) (k + 1) := by
  obtain ⟨d, hd⟩ : ∃ d, min n m - k = d + 1 := ⟨min n m - k - 1, by omega⟩
  rw [hd, cmpF, if_pos c1, if_pos c2, show min n m - (k + 1) = d by omega]

set_option maxHeartbeats 1000000 in
theorem compare_any (a a' : Option Addr) (n m c c' : Nat) (N V N' V' : Nat → ByteArray) (w : World) (hn : n ≤ 4194304) (hm : m ≤ 4194304) (h : LV w a n N V) (h' : LV w a' m N' V') :
    Calls Try.prog 10 #[.slice a n c, .slice a' m c'] w fun e w' => e = .returned (.int .i64 (cmpF n m (bs N) (bs V) (bs N') (bs V') (min n m) 0)) ∧ ∃ q, w' = w.drewN q := by
  go_enter Try.func10, Try.ntmps10
  go_wp2
  go_loopw [5, 6] (fun i _ wr => ∃ k q : Nat, k ≤ n ∧ k ≤ m ∧ i = .int .i64 k ∧ wr = w.drewN q ∧ cmpF n m (bs N) (bs V) (bs N') (bs V') (min n m) 0 = cmpF n m (bs N) (bs V) (bs N') (bs V') (min n m - k) k) (fun i _ _ => n - (intOf i).toNat)
  case atStart => exact ⟨0, 0, Nat.zero_le _, Nat.zero_le _, rfl, rfl, rfl⟩
  case round =>
    obtain ⟨k, q, hkn, hkm, rfl, hw, heq⟩ := hrel
    have HW : Hid (wr = w.drewN q) := hw
    have e0 : ∀ p, wr.cell? p = w.cell? p := fun p => by rw [hw]; exact (World.drewN_alike w q).cell p
    clear hw
    have HE : Hid (cmpF n m (bs N) (bs V) (bs N') (bs V') (min n m) 0 = cmpF n m (bs N) (bs V) (bs N') (bs V') (min n m - k) k) := heq
    clear heq
    by_cases h1 : k < n
    · by_cases h2 : k < m
      · obtain ⟨b, off, rfl, hc⟩ := h.resolve_left (by omega)
        obtain ⟨b', off', rfl, hc'⟩ := h'.resolve_left (by omega)
        obtain ⟨g1, g2⟩ := hc k h1
        obtain ⟨g1', g2'⟩ := hc' k h2
        rw [← e0] at g1 g2 g1' g2'
        clear hc hc' h h' e0
        by_cases c1 : Lib.compareBytes (N k).data.toList (N' k).data.toList = 0
        · by_cases c2 : Lib.compareBytes (V k).data.toList (V' k).data.toList = 0
          · have S := cmpF_step2 (N := bs N) (V := bs V) (N' := bs N') (V' := bs V') h1 h2 c1 c2
            have HS : Hid (cmpF n m (bs N) (bs V) (bs N') (bs V') (min n m) 0 = cmpF n m (bs N) (bs V) (bs N') (bs V') (min n m - (k + 1)) (k + 1)) := HE.out.trans S
            clear S HE
            go_wp2
            go_quiet ((go_at_call 14; exact Calls.quiet_of_same (strings_Compare _ _ _)))
            obtain ⟨wq, hwq⟩ : ∃ x : World, x = wr.drewN nq := ⟨_, rfl⟩
            rw [← hwq]
            have k2 : wq.cell? ⟨b, off + k * 2 + 1, none⟩ = some (.string (V k)) := by rw [hwq]; exact g2
            have k2' : wq.cell? ⟨b', off' + k * 2 + 1, none⟩ = some (.string (V' k)) := by rw [hwq]; exact g2'
            obtain ⟨q2, HQ⟩ : ∃ q2, Hid (wq = w.drewN q2) := ⟨q + nq, by rw [hwq, HW.out, World.drewN_drewN]; rfl⟩
            clear hwq HW g1 g2 g1' g2'
            go_wp2
            go_quiet ((go_at_call 14; exact Calls.quiet_of_same (strings_Compare _ _ _)))
            go_wp2
            go_roundw
            case rel => exact ⟨k + 1, q2 + nq, by omega, by omega, by go_num, by rw [HQ.out, World.drewN_drewN], HS.out⟩
            case measure => simp [intOf]; omega
          · have S := cmpF_step1 (N := bs N) (V := bs V) (N' := bs N') (V' := bs V') h1 h2 c1 c2
            have HS : Hid (cmpF n m (bs N) (bs V) (bs N') (bs V') (min n m) 0 = Lib.compareBytes (V k).data.toList (V' k).data.toList) := HE.out.trans S
            clear S HE
            have c3 : (Lib.compareBytes (V k).data.toList (V' k).data.toList == 0) = false := by simpa using c2
            go_wp2
            go_quiet ((go_at_call 14; exact Calls.quiet_of_same (strings_Compare _ _ _)))
            obtain ⟨wq, hwq⟩ : ∃ x : World, x = wr.drewN nq := ⟨_, rfl⟩
            rw [← hwq]
            have k2 : wq.cell? ⟨b, off + k * 2 + 1, none⟩ = some (.string (V k)) := by rw [hwq]; exact g2
            have k2' : wq.cell? ⟨b', off' + k * 2 + 1, none⟩ = some (.string (V' k)) := by rw [hwq]; exact g2'
            obtain ⟨q2, HQ⟩ : ∃ q2, Hid (wq = w.drewN q2) := ⟨q + nq, by rw [hwq, HW.out, World.drewN_drewN]; rfl⟩
            clear hwq HW g1 g2 g1' g2'
            go_wp2
            go_quiet ((go_at_call 14; exact Calls.quiet_of_same (strings_Compare _ _ _)))
            go_wp2
            go_ret
            exact ⟨ret_int HS.out.symm, q2 + nq, by rw [HQ.out, World.drewN_drewN]⟩
        · have S := cmpF_step0 (N := bs N) (V := bs V) (N' := bs N') (V' := bs V') h1 h2 c1
          have HS : Hid (cmpF n m (bs N) (bs V) (bs N') (bs V') (min n m) 0 = Lib.compareBytes (N k).data.toList (N' k).data.toList) := HE.out.trans S
          clear S HE
          have c3 : (Lib.compareBytes (N k).data.toList (N' k).data.toList == 0) = false := by simpa using c1
          go_wp2
          go_quiet ((go_at_call 14; exact Calls.quiet_of_same (strings_Compare _ _ _)))
          go_wp2
          go_ret
          exact ⟨ret_int HS.out.symm, q + nq, by rw [HW.out, World.drewN_drewN]⟩
      · have hkm2 : k = m := by omega
        subst hkm2
        have HS : Hid (cmpF n k (bs N) (bs V) (bs N') (bs V') (min n k) 0 = 1) := by
          show _ = _
          rw [HE.out, show min n k - k = 0 by omega, cmpF, if_neg (by omega), if_pos h1]
        clear HE h h' e0
        go_wp2
        go_ret
        exact ⟨ret_int HS.out.symm, q, HW.out⟩
    · have hkn2 : k = n := by omega
      subst hkn2
      by_cases h2 : k < m
      · have HS : Hid (cmpF k m (bs N) (bs V) (bs N') (bs V') (min k m) 0 = -1) := by
          show _ = _
          rw [HE.out, show min k m - k = 0 by omega, cmpF, if_pos h2]
        clear HE h h' e0
        go_wp2
        go_ret
        exact ⟨ret_int HS.out.symm, q, HW.out⟩
      · have HS : Hid (cmpF k m (bs N) (bs V) (bs N') (bs V') (min k m) 0 = 0) := by
          show _ = _
          rw [HE.out, show min k m - k = 0 by omega, cmpF, if_neg h2, if_neg (by omega)]
        clear HE h h' e0
        go_wp2
        go_ret
        exact ⟨ret_int HS.out.symm, q, HW.out⟩

end Go.Proofs.Qxb6632426a
