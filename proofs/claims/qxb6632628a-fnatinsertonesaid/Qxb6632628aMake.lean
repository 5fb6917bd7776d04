/-
  SEAT b6632628a: a row of three-cell elements that the call makes; toOutlineB1 by its contract.
-/
import Derived.Test.Qxb6632628aViews
namespace Go.Proofs.Qxb6632628a
open Go.RowKit Go.Proofs.Qxb6632628a.Plain

/-- block B holds room for n elements of three cells; the first k are (F0 i, F1 i, F2 i) -/
def Row3 (w : World) (B t n k : Nat) (F0 F1 F2 : Nat → Value) : Prop :=
  ∃ G : Nat → Value, w.rowIs B t (n * 3) G ∧ ∀ i, i < k → G (i * 3) = F0 i ∧ G (i * 3 + 1) = F1 i ∧ G (i * 3 + 2) = F2 i

theorem Row3.lt {w : World} {B t n k : Nat} {F0 F1 F2 : Nat → Value} (h : Row3 w B t n k F0 F1 F2) : B < w.heap.size := by
  obtain ⟨G, hr, _⟩ := h
  exact hr.lt

theorem Row3.of_block {w w' : World} {B t n k : Nat} {F0 F1 F2 : Nat → Value} (h : Row3 w B t n k F0 F1 F2) (e : w'.heap[B]? = w.heap[B]?) : Row3 w' B t n k F0 F1 F2 := by
  obtain ⟨G, hr, hG⟩ := h
  exact ⟨G, hr.of_block e, hG⟩

theorem Row3.cells {w : World} {B t n k : Nat} {F0 F1 F2 : Nat → Value} (h : Row3 w B t n k F0 F1 F2) (hk : k ≤ n) {i : Nat} (hi : i < k) :
    w.cell? ⟨B, 0 + i * 3, none⟩ = some (F0 i) ∧ w.cell? ⟨B, 0 + i * 3 + 1, none⟩ = some (F1 i) ∧ w.cell? ⟨B, 0 + i * 3 + 2, none⟩ = some (F2 i) := by
  obtain ⟨G, hr, hG⟩ := h
  obtain ⟨e0, e1, e2⟩ := hG i hi
  refine ⟨?_, ?_, ?_⟩
  · rw [Nat.zero_add, hr.cell (by omega), e0]
  · rw [Nat.zero_add, hr.cell (by omega), e1]
  · rw [Nat.zero_add, hr.cell (by omega), e2]

theorem Row3.room {w : World} {B t n k : Nat} {F0 F1 F2 : Nat → Value} (h : Row3 w B t n k F0 F1 F2) (hk : k < n) : ∀ j, j < 3 → (w.cell? ⟨B, 0 + k * 3 + j, none⟩).isSome = true ∧ w.frozen? ⟨B, 0 + k * 3 + j, none⟩ = false := by
  obtain ⟨G, hr, _⟩ := h
  intro j hj
  exact ⟨by rw [hr.cell (by omega)]; rfl, hr.frozen _⟩

theorem Row3.push {w : World} {B t n k : Nat} {F0 F1 F2 E0 E1 E2 : Nat → Value} {x y z : Value} (h : Row3 w B t n k F0 F1 F2)
    (h0 : E0 k = x) (h1 : E1 k = y) (h2 : E2 k = z) (he : ∀ i, i < k → E0 i = F0 i ∧ E1 i = F1 i ∧ E2 i = F2 i) : Row3 (w.setCells B (0 + k * 3) [x, y, z]) B t n (k + 1) E0 E1 E2 := by
  obtain ⟨G, hr, hG⟩ := h
  refine ⟨_, ((hr.set (0 + k * 3) x).set (0 + k * 3 + 1) y).set (0 + k * 3 + 1 + 1) z, fun i hi => ?_⟩
  by_cases e : i = k
  · subst e
    refine ⟨?_, ?_, ?_⟩
    · show (if i * 3 = 0 + i * 3 + 1 + 1 then z else if i * 3 = 0 + i * 3 + 1 then y else if i * 3 = 0 + i * 3 then x else G (i * 3)) = _
      rw [if_neg (by omega), if_neg (by omega), if_pos (by omega), h0]
    · show (if i * 3 + 1 = 0 + i * 3 + 1 + 1 then z else if i * 3 + 1 = 0 + i * 3 + 1 then y else if i * 3 + 1 = 0 + i * 3 then x else G (i * 3 + 1)) = _
      rw [if_neg (by omega), if_pos (by omega), h1]
    · show (if i * 3 + 2 = 0 + i * 3 + 1 + 1 then z else if i * 3 + 2 = 0 + i * 3 + 1 then y else if i * 3 + 2 = 0 + i * 3 then x else G (i * 3 + 2)) = _
      rw [if_pos (by omega), h2]
  · obtain ⟨e0, e1, e2⟩ := hG i (by omega)
    obtain ⟨f0, f1, f2⟩ := he i (by omega)
    refine ⟨?_, ?_, ?_⟩
    · show (if i * 3 = 0 + k * 3 + 1 + 1 then z else if i * 3 = 0 + k * 3 + 1 then y else if i * 3 = 0 + k * 3 then x else G (i * 3)) = _
      rw [if_neg (by omega), if_neg (by omega), if_neg (by omega), e0, f0]
    · show (if i * 3 + 1 = 0 + k * 3 + 1 + 1 then z else if i * 3 + 1 = 0 + k * 3 + 1 then y else if i * 3 + 1 = 0 + k * 3 then x else G (i * 3 + 1)) = _
      rw [if_neg (by omega), if_neg (by omega), if_neg (by omega), e1, f1]
    · show (if i * 3 + 2 = 0 + k * 3 + 1 + 1 then z else if i * 3 + 2 = 0 + k * 3 + 1 then y else if i * 3 + 2 = 0 + k * 3 then x else G (i * 3 + 2)) = _
      rw [if_neg (by omega), if_neg (by omega), if_neg (by omega), e2, f2]

/-- what 'make([]T, 0, n)' lays, T of three cells -/
theorem Row3.made (w : World) (z : Array Value) (t n : Nat) (F0 F1 F2 : Nat → Value) : Row3 (w.alloc (.cells (madeCells z (n * 3)) t)) w.heap.size t n 0 F0 F1 F2 := by
  refine ⟨fun i => (madeCells z (n * 3)).getD i undef, ⟨_, Deep.blk_alloc_new _ _, size_madeCells _ _, fun i hi => ?_⟩, fun i hi => by omega⟩
  have hs : i < (madeCells z (n * 3)).size := by rw [size_madeCells]; exact hi
  rw [Array.getElem?_eq_getElem hs]
  simp [Array.getD, hs]

theorem below_setCells3 {B : Nat} {a w : World} (h : Below B a w) {b : Nat} (hb : B ≤ b) (o : Nat) (x y z : Value) : Below B a (w.setCells b o [x, y, z]) :=
  ((h.setCell (p := ⟨b, o, none⟩) hb x).setCell (p := ⟨b, o + 1, none⟩) hb y).setCell (p := ⟨b, o + 1 + 1, none⟩) hb z

theorem heap_setCells3 (w : World) (b o : Nat) (x y z : Value) (k : Nat) (h : k ≠ b) : (w.setCells b o [x, y, z]).heap[k]? = w.heap[k]? :=
  ((Below.heap_setCell _ ⟨b, o + 1 + 1, none⟩ z k h).trans (Below.heap_setCell _ ⟨b, o + 1, none⟩ y k h)).trans (Below.heap_setCell w ⟨b, o, none⟩ x k h)

/-- append WHERE THERE IS ROOM, onto a row told cell by cell, outside a region that draws -/
theorem wpList_append_room {P : Program} (w : World) {ops : Array Oper} {rest : List Oper} {o : Oper} {a : Act} {Q : Exit → Act → World → Prop}
    (hg : o.guard = none) (s x : Operand) (t : TypeId) (hop : o.op = Op.call { callee := Callee.builtin Builtin.append, args := #[s, x], argTypes := #[t, t] })
    (e : TypeId) (i : TypeInfo) (size : Nat) (h1 : P.underlying t = some (.slice e)) (h2 : P.info? e = some i) (h4 : i.size = size)
    (b off n cap : Nat) (hs : a.eval s = .slice (some ⟨b, off, none⟩) n cap)
    (ad : Addr) (m c : Nat) (news : List Value) (hx : a.eval x = .slice (some ad) m c) (hn : news.length = m * size) (hc : ∀ j u, news[j]? = some u → w.cell? (ad.add j) = some u) (h1c : ∀ u ∈ news, u.oneCell' = true)
    (hroom : n + m ≤ cap) (hspare : ∀ j, j < news.length → (w.cell? ⟨b, off + n * size + j, none⟩).isSome = true ∧ w.frozen? ⟨b, off + n * size + j, none⟩ = false)
    (hK : wpList P ops Q rest (a.put o.dst (.slice (some ⟨b, off, none⟩) (n + m) cap)) (w.setCells b (off + n * size) news)) :
    wpList P ops Q (o :: rest) a w := by
  refine wpList_plain hg fun K hK' => ?_
  subst h4
  have hrun := run_append_room_cells (P := P) w t o.type e i h1 h2 b off n cap ad m c news hn hc h1c hroom (fun j hj => (hspare j hj).1) (fun j hj => (hspare j hj).2)
  unfold Oper.wp
  simp [execOp, hop, resolve, invoke, builtin, hs, hx, hrun, Result.andThen]
  exact hK' _ _ hK

theorem news_three (w : World) (x y z : Value) (t : TypeId) : ∀ j u, [x, y, z][j]? = some u → (w.alloc (.cells #[x, y, z] t)).cell? ((⟨w.heap.size, 0, none⟩ : Addr).add j) = some u := by
  intro j u hj
  match j, hj with
  | 0, hj => simp at hj; subst hj; simp [Addr.add]
  | 1, hj => simp at hj; subst hj; simp [Addr.add]
  | 2, hj => simp at hj; subst hj; simp [Addr.add]

theorem cell_setCells3 (w : World) (b o : Nat) (x y z : Value) (p : Addr) (h : p.block ≠ b) : (w.setCells b o [x, y, z]).cell? p = w.cell? p := World.cell?_of_block (heap_setCells3 w b o x y z p.block h)


theorem Try.info33 : (Try.prog.info? 33).map (fun i => (i.zero, i.size, i.bytes)) = some (some (.agg #[.string ByteArray.empty, .int .i64 0, .int .i64 0]), 3, 32) := by kernel_rfl

def mcD (n : Nat) : Array Value := madeCells #[.string ByteArray.empty, .int .i64 0, .int .i64 0] (n * 3)

theorem run_make_full3 (n : Nat) (hn : n ≤ 1048576) (w : World) :
    (Instr.makeSlice 26 (.int .i64 (n : Int)) (.int .i64 (n : Int))).run Try.prog w = .ok (.slice (some ⟨w.heap.size, 0, none⟩) n n) (w.alloc (.cells (mcD n) 33)) := by
  obtain ⟨i, hi, hz0, hz1, hz2⟩ := info_parts Try.info33
  have h := run_make (P := Try.prog) w 26 33 i _ Try.underlying26 hi hz0 .i64 .i64 n n (by omega) (Int.le_refl _) (by rw [hz2]; omega) (by omega)
  rw [h, hz1]
  rfl
theorem run_make_empty3 (n : Nat) (hn : n ≤ 1048576) (w : World) :
    (Instr.makeSlice 26 (.int .i64 0) (.int .i64 (n : Int))).run Try.prog w = .ok (.slice (some ⟨w.heap.size, 0, none⟩) 0 n) (w.alloc (.cells (mcD n) 33)) := by
  obtain ⟨i, hi, hz0, hz1, hz2⟩ := info_parts Try.info33
  have h := run_make (P := Try.prog) w 26 33 i _ Try.underlying26 hi hz0 .i64 .i64 0 n (by omega) (by omega) (by rw [hz2]; omega) (by omega)
  rw [h, hz1]
  rfl

/-- a row of definitions, k of n filled -/
def DRow (w : World) (B n k : Nat) (S : Nat → ByteArray) (F L : Nat → Int) : Prop := Row3 w B 33 n k (fun i => .string (S i)) (fun i => .int .i64 (F i)) (fun i => .int .i64 (L i))

theorem DRow.view {w : World} {B n k : Nat} {S : Nat → ByteArray} {F L : Nat → Int} (h : DRow w B n k S F L) (hk : k ≤ n) : DV w (some ⟨B, 0, none⟩) k S F L := .inr ⟨B, 0, rfl, fun _ hi => Row3.cells h hk hi⟩

theorem DRow.push {w : World} {B n k : Nat} {S : Nat → ByteArray} {F L : Nat → Int} (h : DRow w B n k S F L) {s : ByteArray} {f l : Int} (h0 : S k = s) (h1 : F k = f) (h2 : L k = l) :
    DRow (w.setCells B (k * 3) [.string s, .int .i64 f, .int .i64 l]) B n (k + 1) S F L := by
  have := Row3.push (E0 := fun i => .string (S i)) (E1 := fun i => .int .i64 (F i)) (E2 := fun i => .int .i64 (L i)) (x := .string s) (y := .int .i64 f) (z := .int .i64 l) h (by simp [h0]) (by simp [h1]) (by simp [h2]) (fun i _ => ⟨rfl, rfl, rfl⟩)
  rwa [Nat.zero_add] at this

def MadePost (w : World) (n : Nat) (S : Nat → ByteArray) (F L : Nat → Int) (e : Ending) (w' : World) : Prop := ∃ a c, e = .returned (.slice a n c) ∧ DV w' a n S F L ∧ Below w.heap.size w w'

set_option maxHeartbeats 1000000 in
theorem toOutline_any (a : Option Addr) (n c : Nat) (S : Nat → ByteArray) (F L : Nat → Int) (w : World) (hn : n ≤ 4096) (h : DV w a n S F L) (hnil : a = none → n = 0) :
    Calls Try.prog 7 #[.slice a n c] w fun e w' => MadePost w n S F L e w' := by
  have q22 : ∀ (w : World) (a : Option Addr) (n c n' c' : Nat), (binOp .eql 22 (.slice a n c) (.slice none n' c')).run Try.prog w = .ok (.bool a.isNone) w := fun w a n c n' c' => Lib.run_eql_slice_nil w _ _ a n c n' c' Try.underlying22
  have hmk := run_make_full3 n (by omega)
  cases a with
  | none =>
    obtain rfl := hnil rfl
    go_enter Try.func7, Try.ntmps7
    go_wp2
    go_ret
    exact ⟨none, 0, rfl, .inl rfl, Below.refl _ _⟩
  | some ad =>
    go_enter Try.func7, Try.ntmps7
    go_wp2
    obtain ⟨B, hB⟩ : ∃ B : Nat, B = w.heap.size := ⟨_, rfl⟩
    have HB : Hid (B = w.heap.size) := hB
    obtain ⟨w1, hw1⟩ : ∃ x : World, x = w.alloc (.cells (mcD n) 33) := ⟨_, rfl⟩
    have hr1 : DRow w1 B n 0 S F L := by rw [hw1, hB]; exact Row3.made _ _ _ _ _ _ _
    have hb1 : Below B w w1 := by rw [hw1, hB]; exact (Below.refl _ _).alloc (Nat.le_refl _) _
    rw [← hw1, ← hB]
    clear hw1 hB hmk
    go_loopw [4] (fun i wr => ∃ k : Nat, k ≤ n ∧ i = .int .i64 k ∧ DRow wr B n k S F L ∧ Below B w wr) (fun i _ => n - (intOf i).toNat)
    case atStart => exact ⟨0, Nat.zero_le _, rfl, hr1, hb1⟩
    case round =>
      clear hr1 hb1
      obtain ⟨k, hkn, rfl, hr, hbel⟩ := hrel
      by_cases h1 : k < n
      · obtain ⟨b, off, hab, hc⟩ := h.resolve_left (by omega)
        obtain rfl := Option.some.inj hab
        obtain ⟨g1, g2, g3⟩ := hc k h1
        have pb : b < B := by rw [HB.out]; exact cell_block g1
        have r1 := (hbel.cell (p := ⟨b, off + k * 3, none⟩) pb).trans g1
        have r2 := (hbel.cell (p := ⟨b, off + k * 3 + 1, none⟩) pb).trans g2
        have r3 := (hbel.cell (p := ⟨b, off + k * 3 + 2, none⟩) pb).trans g3
        have hroom := Row3.room hr h1
        obtain ⟨o0, f0⟩ := hroom 0 (by omega)
        obtain ⟨o1, f1⟩ := hroom 1 (by omega)
        obtain ⟨o2, f2⟩ := hroom 2 (by omega)
        rw [Nat.zero_add] at o0 o1 o2 f0 f1 f2
        rw [Nat.add_zero] at o0 f0
        obtain ⟨u0, e0⟩ := Option.isSome_iff_exists.1 o0
        obtain ⟨u1, e1⟩ := Option.isSome_iff_exists.1 o1
        obtain ⟨u2, e2⟩ := Option.isSome_iff_exists.1 o2
        clear hc h g1 g2 g3 hroom o0 o1 o2 q22 hab
        go_wp2
        go_roundw
        case rel => exact ⟨k + 1, by omega, by go_num, DRow.push hr rfl rfl rfl, below_setCells3 hbel (Nat.le_refl _) _ _ _ _⟩
        case measure => simp [intOf]; omega
      · obtain rfl : k = n := by omega
        go_wp2
        go_ret
        exact ⟨_, _, rfl, hr.view (Nat.le_refl _), HB.out ▸ hbel⟩

end Go.Proofs.Qxb6632628a
