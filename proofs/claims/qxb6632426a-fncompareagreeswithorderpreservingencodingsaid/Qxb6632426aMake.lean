/-
  SEAT b6632426a: toLabels and concat by their contracts.
-/
import Derived.Test.Qxb6632426aCompare
import Derived.Lib.SliceRun
import Derived.Deep.RegionWith
namespace Go.Proofs.Qxb6632426a
open Go.RowKit Go.Proofs.Qxb6632426a.Plain

theorem Try.info36 : (Try.prog.info? 36).map (fun i => (i.zero, i.size, i.bytes)) = some (some (.agg #[.string ByteArray.empty, .string ByteArray.empty]), 2, 32) := by kernel_rfl

/-- what 'make(storage.Labels, n)' lays -/
def mc (n : Nat) : Array Value := madeCells #[.string ByteArray.empty, .string ByteArray.empty] (n * 2)

theorem run_make_labels (n : Nat) (hn : n ≤ 4194304) (w : World) :
    (Instr.makeSlice 26 (.int .i64 (n : Int)) (.int .i64 (n : Int))).run Try.prog w = .ok (.slice (some ⟨w.heap.size, 0, none⟩) n n) (w.alloc (.cells (mc n) 36)) := by
  obtain ⟨i, hi, hz0, hz1, hz2⟩ := info_parts Try.info36
  have h := run_make (P := Try.prog) w 26 36 i _ Try.underlying26 hi hz0 .i64 .i64 n n (by omega) (Int.le_refl _) (by rw [hz2]; omega) (by omega)
  rw [h, hz1]
  rfl

/-- cell j of a row of labels -/
def lc (N V : Nat → ByteArray) (j : Nat) : Value := if j % 2 = 0 then .string (N (j / 2)) else .string (V (j / 2))

theorem made_row (w : World) (n : Nat) (N V : Nat → ByteArray) : (w.alloc (.cells (mc n) 36)).rowIs w.heap.size 36 (n * 2) (fun j => if j < 0 * 2 then lc N V j else .string ByteArray.empty) := by
  refine ⟨_, Deep.blk_alloc_new _ _, size_madeCells _ _, fun i hi => ?_⟩
  simp only [mc, madeCells]
  simp [hi]
  have : i % 2 = 0 ∨ i % 2 = 1 := by omega
  rcases this with h | h <;> simp [h]

def MadePost (w : World) (n : Nat) (N V : Nat → ByteArray) (e : Ending) (w' : World) : Prop := ∃ a' c', e = .returned (.slice a' n c') ∧ LV w' a' n N V ∧ Below w.heap.size w w'

theorem row_step {w : World} {B n k : Nat} {N V : Nat → ByteArray} {x y : ByteArray} (hx : N k = x) (hy : V k = y) (h : w.rowIs B 36 (n * 2) (fun j => if j < k * 2 then lc N V j else .string ByteArray.empty)) :
    ((w.setCell ⟨B, k * 2, none⟩ (.string x)).setCell ⟨B, k * 2 + 1, none⟩ (.string y)).rowIs B 36 (n * 2) (fun j => if j < (k + 1) * 2 then lc N V j else .string ByteArray.empty) := by
  subst hx
  subst hy
  refine ((h.set (k * 2) _).set (k * 2 + 1) _).congr fun j _ => ?_
  by_cases e1 : j = k * 2 + 1
  · subst e1
    have e2 : (k * 2 + 1) % 2 = 1 := by omega
    have e3 : (k * 2 + 1) / 2 = k := by omega
    simp only [if_pos, if_pos (show k * 2 + 1 < (k + 1) * 2 by omega), lc, e2, e3]
    simp
  · simp only [if_neg e1]
    by_cases e2 : j = k * 2
    · subst e2
      have e2 : (k * 2) % 2 = 0 := by omega
      have e3 : (k * 2) / 2 = k := by omega
      simp only [if_pos, if_pos (show k * 2 < (k + 1) * 2 by omega), lc, e2, e3]
    · simp only [if_neg e2]
      by_cases e3 : j < k * 2
      · simp only [if_pos e3, if_pos (show j < (k + 1) * 2 by omega)]
      · simp only [if_neg e3, if_neg (show ¬ j < (k + 1) * 2 by omega)]

theorem row_done {w : World} {B n m : Nat} {N V : Nat → ByteArray} (hm : m = n * 2) (h : w.rowIs B 36 m (fun j => if j < n * 2 then lc N V j else .string ByteArray.empty)) : LV w (some ⟨B, 0, none⟩) n N V := by
  refine .inr ⟨B, 0, rfl, fun i hi => ⟨?_, ?_⟩⟩
  · rw [Nat.zero_add, h.cell (by omega)]
    have e2 : (i * 2) % 2 = 0 := by omega
    have e3 : (i * 2) / 2 = i := by omega
    simp only [if_pos (show i * 2 < n * 2 by omega), lc, e2, e3, if_pos]
  · rw [Nat.zero_add, h.cell (by omega)]
    have e2 : (i * 2 + 1) % 2 = 1 := by omega
    have e3 : (i * 2 + 1) / 2 = i := by omega
    simp only [if_pos (show i * 2 + 1 < n * 2 by omega), lc, e2, e3]
    simp

set_option maxHeartbeats 1000000 in
theorem toLabels_any (a : Option Addr) (n c : Nat) (N V : Nat → ByteArray) (w : World) (hn : n ≤ 4194304) (h : LV w a n N V) (hnil : a = none → n = 0) :
    Calls Try.prog 7 #[.slice a n c] w fun e w' => MadePost w n N V e w' := by
  have q22 : ∀ (w : World) (a : Option Addr) (n c n' c' : Nat), (binOp .eql 22 (.slice a n c) (.slice none n' c')).run Try.prog w = .ok (.bool a.isNone) w := fun w a n c n' c' => Lib.run_eql_slice_nil w _ _ a n c n' c' Try.underlying22
  have hmk := run_make_labels n hn
  cases a with
  | none =>
    obtain rfl := hnil rfl
    go_enter Try.func7, Try.ntmps7
    go_wp2
    go_ret
    exact ⟨none, 0, rfl, .inl rfl, Below.refl _ _⟩
  | some ad =>
    go_enter Try.func7, Try.ntmps7
    go_wp2
    have hrow := made_row w n N V
    obtain ⟨w1, hw1⟩ : ∃ x : World, x = w.alloc (.cells (mc n) 36) := ⟨_, rfl⟩
    rw [← hw1] at hrow
    have hb1 : Below w.heap.size w w1 := by rw [hw1]; exact (Below.refl _ _).alloc (Nat.le_refl _) _
    rw [← hw1]
    clear hw1
    obtain ⟨B, hB⟩ : ∃ B : Nat, B = w.heap.size := ⟨_, rfl⟩
    rw [← hB] at hrow ⊢
    have HB : Hid (B = w.heap.size) := hB
    have hb2 : Below B w w1 := hB ▸ hb1
    clear hB hb1
    go_loopw [4] (fun i wr => ∃ k : Nat, k ≤ n ∧ i = .int .i64 k ∧ wr.rowIs B 36 (n * 2) (fun j => if j < k * 2 then lc N V j else .string ByteArray.empty) ∧ Below B w wr) (fun i _ => n - (intOf i).toNat)
    case atStart => exact ⟨0, Nat.zero_le _, rfl, hrow, hb2⟩
    case round =>
      obtain ⟨k, hkn, rfl, hr, hbel⟩ := hrel
      by_cases h1 : k < n
      · obtain ⟨b, off, hab, hc⟩ := h.resolve_left (by omega)
        obtain rfl := Option.some.inj hab
        obtain ⟨g1, g2⟩ := hc k h1
        rw [← hbel.cell (by rw [HB.out]; exact cell_block g1)] at g1
        rw [← hbel.cell (by rw [HB.out]; exact cell_block g2)] at g2
        have f1 := hr.frozen (k * 2)
        have f2 := hr.frozen (k * 2 + 1)
        have o1 := hr.cell (i := k * 2) (by omega)
        have o2 := hr.cell (i := k * 2 + 1) (by omega)
        simp only [if_neg (show ¬ k * 2 < k * 2 by omega)] at o1
        simp only [if_neg (show ¬ k * 2 + 1 < k * 2 by omega)] at o2
        clear hc h hmk q22
        go_wp2
        go_region
        go_wp2
        go_roundw
        case rel => exact ⟨k + 1, by omega, by go_num, row_step rfl rfl hr, ((hbel.setCell (p := ⟨B, k * 2, none⟩) (Nat.le_refl _) _).setCell (p := ⟨B, k * 2 + 1, none⟩) (Nat.le_refl _) _).drew⟩
        case measure => simp [intOf]; omega
      · obtain rfl : k = n := by omega
        go_wp2
        go_ret
        exact ⟨_, _, rfl, row_done rfl hr, HB.out ▸ hbel⟩

/-- one after the other -/
def cat (n : Nat) (N N' : Nat → ByteArray) (i : Nat) : ByteArray := if i < n then N i else N' (i - n)
theorem cat_lo {n : Nat} {N N' : Nat → ByteArray} {i : Nat} (h : i < n) : cat n N N' i = N i := if_pos h
theorem cat_hi {n : Nat} {N N' : Nat → ByteArray} {i : Nat} : cat n N N' (n + i) = N' i := by
  unfold cat
  rw [if_neg (by omega), show n + i - n = i by omega]

set_option maxHeartbeats 1000000 in
theorem concat_any (a a' : Option Addr) (n m c c' : Nat) (N V N' V' : Nat → ByteArray) (w : World) (hn : n ≤ 1048576) (hm : m ≤ 1048576) (h : LV w a n N V) (h' : LV w a' m N' V') :
    Calls Try.prog 12 #[.slice a n c, .slice a' m c'] w fun e w' => MadePost w (n + m) (cat n N N') (cat n V V') e w' := by
  have hmk := run_make_labels (n + m) (by omega)
  have en : ((n + m : Nat) : Int) = (n : Int) + (m : Int) := by omega
  rw [en] at hmk
  clear en
  go_enter Try.func12, Try.ntmps12
  go_wp2
  have hrow := made_row w (n + m) (cat n N N') (cat n V V')
  obtain ⟨w1, hw1⟩ : ∃ x : World, x = w.alloc (.cells (mc (n + m)) 36) := ⟨_, rfl⟩
  rw [← hw1] at hrow
  have hb1 : Below w.heap.size w w1 := by rw [hw1]; exact (Below.refl _ _).alloc (Nat.le_refl _) _
  rw [← hw1]
  clear hw1 hmk
  obtain ⟨B, hB⟩ : ∃ B : Nat, B = w.heap.size := ⟨_, rfl⟩
  rw [← hB] at hrow ⊢
  have HB : Hid (B = w.heap.size) := hB
  have hb2 : Below B w w1 := hB ▸ hb1
  clear hB hb1
  go_loopw [6] (fun i wr => ∃ k : Nat, k ≤ n ∧ i = .int .i64 k ∧ wr.rowIs B 36 ((n + m) * 2) (fun j => if j < k * 2 then lc (cat n N N') (cat n V V') j else .string ByteArray.empty) ∧ Below B w wr) (fun i _ => n - (intOf i).toNat)
  case atStart => exact ⟨0, Nat.zero_le _, rfl, hrow, hb2⟩
  case round =>
    obtain ⟨k, hkn, rfl, hr, hbel⟩ := hrel
    by_cases h1 : k < n
    · obtain ⟨b, off, rfl, hc⟩ := h.resolve_left (by omega)
      obtain ⟨g1, g2⟩ := hc k h1
      rw [← hbel.cell (by rw [HB.out]; exact cell_block g1)] at g1
      rw [← hbel.cell (by rw [HB.out]; exact cell_block g2)] at g2
      have f1 := hr.frozen (k * 2)
      have f2 := hr.frozen (k * 2 + 1)
      have o1 := hr.cell (i := k * 2) (by omega)
      have o2 := hr.cell (i := k * 2 + 1) (by omega)
      simp only [if_neg (show ¬ k * 2 < k * 2 by omega)] at o1
      simp only [if_neg (show ¬ k * 2 + 1 < k * 2 by omega)] at o2
      clear hc h h'
      go_wp2
      go_region
      go_wp2
      go_roundw
      case rel => exact ⟨k + 1, by omega, by go_num, row_step (cat_lo h1) (cat_lo h1) hr, ((hbel.setCell (p := ⟨B, k * 2, none⟩) (Nat.le_refl _) _).setCell (p := ⟨B, k * 2 + 1, none⟩) (Nat.le_refl _) _).drew⟩
      case measure => simp [intOf]; omega
    · obtain rfl : k = n := by omega
      clear h
      go_wp2
      obtain ⟨wo, hwo⟩ : ∃ x : World, x = wr := ⟨_, rfl⟩
      rw [← hwo] at hr hbel ⊢
      clear hwo
      go_loopw [7] (fun i wr => ∃ q : Nat, q ≤ m ∧ i = .int .i64 q ∧ wr.rowIs B 36 ((k + m) * 2) (fun j => if j < (k + q) * 2 then lc (cat k N N') (cat k V V') j else .string ByteArray.empty) ∧ Below B w wr) (fun i _ => m - (intOf i).toNat)
      case atStart => exact ⟨0, Nat.zero_le _, rfl, hr, hbel⟩
      case round =>
        clear hr hbel
        obtain ⟨q, hqn, rfl, hr, hbel⟩ := hrel
        by_cases h2 : q < m
        · obtain ⟨b, off, rfl, hc⟩ := h'.resolve_left (by omega)
          obtain ⟨g1, g2⟩ := hc q h2
          rw [← hbel.cell (by rw [HB.out]; exact cell_block g1)] at g1
          rw [← hbel.cell (by rw [HB.out]; exact cell_block g2)] at g2
          have f1 := hr.frozen ((k + q) * 2)
          have f2 := hr.frozen ((k + q) * 2 + 1)
          have o1 := hr.cell (i := (k + q) * 2) (by omega)
          have o2 := hr.cell (i := (k + q) * 2 + 1) (by omega)
          simp only [if_neg (show ¬ (k + q) * 2 < (k + q) * 2 by omega)] at o1
          simp only [if_neg (show ¬ (k + q) * 2 + 1 < (k + q) * 2 by omega)] at o2
          clear hc h'
          go_wp2
          go_region
          go_wp2
          go_roundw
          case rel => exact ⟨q + 1, by omega, by go_num, row_step (k := k + q) cat_hi cat_hi hr, ((hbel.setCell (p := ⟨B, (k + q) * 2, none⟩) (Nat.le_refl _) _).setCell (p := ⟨B, (k + q) * 2 + 1, none⟩) (Nat.le_refl _) _).drew⟩
          case measure => simp [intOf]; omega
        · obtain rfl : q = m := by omega
          go_wp2
          go_ret
          exact ⟨_, _, rfl, row_done rfl hr, HB.out ▸ hbel⟩

end Go.Proofs.Qxb6632426a
