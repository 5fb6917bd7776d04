/-
  SEAT b6632535a: a row of three-cell elements that the call makes with a capacity and fills by append.
-/
import Derived.Test.Qxb6632535aViews
import Derived.ArgAppend
namespace Go.Proofs.Qxb6632535a
open Go.RowKit

/-- block B holds room for n elements of three cells; the first k are (F0 i, F1 i, F2 i) -/
def Row3 (w : World) (B t n k : Nat) (F0 F1 F2 : Nat → Value) : Prop :=
  ∃ G : Nat → Value, w.rowIs B t (n * 3) G ∧ ∀ i, i < k → G (i * 3) = F0 i ∧ G (i * 3 + 1) = F1 i ∧ G (i * 3 + 2) = F2 i

theorem Row3.lt {w : World} {B t n k : Nat} {F0 F1 F2 : Nat → Value} (h : Row3 w B t n k F0 F1 F2) : B < w.heap.size := by
  obtain ⟨G, hr, _⟩ := h
  exact hr.lt

theorem Row3.of_block {w w' : World} {B t n k : Nat} {F0 F1 F2 : Nat → Value} (h : Row3 w B t n k F0 F1 F2) (e : w'.heap[B]? = w.heap[B]?) : Row3 w' B t n k F0 F1 F2 := by
  obtain ⟨G, hr, hG⟩ := h
  exact ⟨G, hr.of_block e, hG⟩

theorem Row3.cells {w : World} {B t n k : Nat} {F0 F1 F2 : Nat → Value} (h : Row3 w B t n k F0 F1 F2) (hk : k ≤ n) {i : Nat} (hi : i < k) :
    w.cell? ⟨B, 0 + i * 3, none⟩ = some (F0 i) ∧ w.cell? ⟨B, 0 + i * 3 + 1, none⟩ = some (F1 i) ∧ w.cell? ⟨B, 0 + i * 3 + 2, none⟩ = some (F2 i) := by
  obtain ⟨G, hr, hG⟩ := h
  obtain ⟨e0, e1, e2⟩ := hG i hi
  refine ⟨?_, ?_, ?_⟩
  · rw [Nat.zero_add, hr.cell (by omega), e0]
  · rw [Nat.zero_add, hr.cell (by omega), e1]
  · rw [Nat.zero_add, hr.cell (by omega), e2]

theorem Row3.room {w : World} {B t n k : Nat} {F0 F1 F2 : Nat → Value} (h : Row3 w B t n k F0 F1 F2) (hk : k < n) : ∀ j, j < 3 → (w.cell? ⟨B, 0 + k * 3 + j, none⟩).isSome = true ∧ w.frozen? ⟨B, 0 + k * 3 + j, none⟩ = false := by
  obtain ⟨G, hr, _⟩ := h
  intro j hj
  exact ⟨by rw [hr.cell (by omega)]; rfl, hr.frozen _⟩

theorem Row3.push {w : World} {B t n k : Nat} {F0 F1 F2 E0 E1 E2 : Nat → Value} {x y z : Value} (h : Row3 w B t n k F0 F1 F2)
    (h0 : E0 k = x) (h1 : E1 k = y) (h2 : E2 k = z) (he : ∀ i, i < k → E0 i = F0 i ∧ E1 i = F1 i ∧ E2 i = F2 i) : Row3 (w.setCells B (0 + k * 3) [x, y, z]) B t n (k + 1) E0 E1 E2 := by
  obtain ⟨G, hr, hG⟩ := h
  refine ⟨_, ((hr.set (0 + k * 3) x).set (0 + k * 3 + 1) y).set (0 + k * 3 + 1 + 1) z, fun i hi => ?_⟩
  by_cases e : i = k
  · subst e
    refine ⟨?_, ?_, ?_⟩
    · show (if i * 3 = 0 + i * 3 + 1 + 1 then z else if i * 3 = 0 + i * 3 + 1 then y else if i * 3 = 0 + i * 3 then x else G (i * 3)) = _
      rw [if_neg (by omega), if_neg (by omega), if_pos (by omega), h0]
    · show (if i * 3 + 1 = 0 + i * 3 + 1 + 1 then z else if i * 3 + 1 = 0 + i * 3 + 1 then y else if i * 3 + 1 = 0 + i * 3 then x else G (i * 3 + 1)) = _
      rw [if_neg (by omega), if_pos (by omega), h1]
    · show (if i * 3 + 2 = 0 + i * 3 + 1 + 1 then z else if i * 3 + 2 = 0 + i * 3 + 1 then y else if i * 3 + 2 = 0 + i * 3 then x else G (i * 3 + 2)) = _
      rw [if_pos (by omega), h2]
  · obtain ⟨e0, e1, e2⟩ := hG i (by omega)
    obtain ⟨f0, f1, f2⟩ := he i (by omega)
    refine ⟨?_, ?_, ?_⟩
    · show (if i * 3 = 0 + k * 3 + 1 + 1 then z else if i * 3 = 0 + k * 3 + 1 then y else if i * 3 = 0 + k * 3 then x else G (i * 3)) = _
      rw [if_neg (by omega), if_neg (by omega), if_neg (by omega), e0, f0]
    · show (if i * 3 + 1 = 0 + k * 3 + 1 + 1 then z else if i * 3 + 1 = 0 + k * 3 + 1 then y else if i * 3 + 1 = 0 + k * 3 then x else G (i * 3 + 1)) = _
      rw [if_neg (by omega), if_neg (by omega), if_neg (by omega), e1, f1]
    · show (if i * 3 + 2 = 0 + k * 3 + 1 + 1 then z else if i * 3 + 2 = 0 + k * 3 + 1 then y else if i * 3 + 2 = 0 + k * 3 then x else G (i * 3 + 2)) = _
      rw [if_neg (by omega), if_neg (by omega), if_neg (by omega), e2, f2]

/-- what 'make([]T, 0, n)' lays, T of three cells -/
theorem Row3.made (w : World) (z : Array Value) (t n : Nat) (F0 F1 F2 : Nat → Value) : Row3 (w.alloc (.cells (madeCells z (n * 3)) t)) w.heap.size t n 0 F0 F1 F2 := by
  refine ⟨fun i => (madeCells z (n * 3)).getD i undef, ⟨_, Deep.blk_alloc_new _ _, size_madeCells _ _, fun i hi => ?_⟩, fun i hi => by omega⟩
  have hs : i < (madeCells z (n * 3)).size := by rw [size_madeCells]; exact hi
  rw [Array.getElem?_eq_getElem hs]
  simp [Array.getD, hs]

theorem below_setCells3 {B : Nat} {a w : World} (h : Below B a w) {b : Nat} (hb : B ≤ b) (o : Nat) (x y z : Value) : Below B a (w.setCells b o [x, y, z]) :=
  ((h.setCell (p := ⟨b, o, none⟩) hb x).setCell (p := ⟨b, o + 1, none⟩) hb y).setCell (p := ⟨b, o + 1 + 1, none⟩) hb z

theorem heap_setCells3 (w : World) (b o : Nat) (x y z : Value) (k : Nat) (h : k ≠ b) : (w.setCells b o [x, y, z]).heap[k]? = w.heap[k]? :=
  ((Below.heap_setCell _ ⟨b, o + 1 + 1, none⟩ z k h).trans (Below.heap_setCell _ ⟨b, o + 1, none⟩ y k h)).trans (Below.heap_setCell w ⟨b, o, none⟩ x k h)

theorem HV.keep {w w' : World} {lo : Nat} {a : Option Addr} {n : Nat} {X Y Z : Nat → ByteArray} (h : HV w lo a n X Y Z) (hk : ∀ b, lo ≤ b → b < w.heap.size → w'.heap[b]? = w.heap[b]?) : HV w' lo a n X Y Z := by
  rcases h with h | ⟨b, off, ha, hlo, hc⟩
  · exact .inl h
  · refine .inr ⟨b, off, ha, hlo, fun i hi => ?_⟩
    obtain ⟨h1, h2, h3⟩ := hc i hi
    exact ⟨(World.cell?_of_block (w := w) (hk b hlo (cell_block h1))).trans h1, (World.cell?_of_block (w := w) (hk b hlo (cell_block h2))).trans h2, (World.cell?_of_block (w := w) (hk b hlo (cell_block h3))).trans h3⟩

/-- append WHERE THERE IS ROOM, onto a row told cell by cell, outside a region that draws -/
theorem wpList_append_room {P : Program} (w : World) {ops : Array Oper} {rest : List Oper} {o : Oper} {a : Act} {Q : Exit → Act → World → Prop}
    (hg : o.guard = none) (s x : Operand) (t : TypeId) (hop : o.op = Op.call { callee := Callee.builtin Builtin.append, args := #[s, x], argTypes := #[t, t] })
    (e : TypeId) (i : TypeInfo) (size : Nat) (h1 : P.underlying t = some (.slice e)) (h2 : P.info? e = some i) (h4 : i.size = size)
    (b off n cap : Nat) (hs : a.eval s = .slice (some ⟨b, off, none⟩) n cap)
    (ad : Addr) (m c : Nat) (news : List Value) (hx : a.eval x = .slice (some ad) m c) (hn : news.length = m * size) (hc : ∀ j u, news[j]? = some u → w.cell? (ad.add j) = some u) (h1c : ∀ u ∈ news, u.oneCell' = true)
    (hroom : n + m ≤ cap) (hspare : ∀ j, j < news.length → (w.cell? ⟨b, off + n * size + j, none⟩).isSome = true ∧ w.frozen? ⟨b, off + n * size + j, none⟩ = false)
    (hK : wpList P ops Q rest (a.put o.dst (.slice (some ⟨b, off, none⟩) (n + m) cap)) (w.setCells b (off + n * size) news)) :
    wpList P ops Q (o :: rest) a w := by
  refine wpList_plain hg fun K hK' => ?_
  subst h4
  have hrun := run_append_room_cells (P := P) w t o.type e i h1 h2 b off n cap ad m c news hn hc h1c hroom (fun j hj => (hspare j hj).1) (fun j hj => (hspare j hj).2)
  unfold Oper.wp
  simp [execOp, hop, resolve, invoke, builtin, hs, hx, hrun, Result.andThen]
  exact hK' _ _ hK

theorem news_three (w : World) (x y z : Value) (t : TypeId) : ∀ j u, [x, y, z][j]? = some u → (w.alloc (.cells #[x, y, z] t)).cell? ((⟨w.heap.size, 0, none⟩ : Addr).add j) = some u := by
  intro j u hj
  match j, hj with
  | 0, hj => simp at hj; subst hj; simp [Addr.add]
  | 1, hj => simp at hj; subst hj; simp [Addr.add]
  | 2, hj => simp at hj; subst hj; simp [Addr.add]

theorem news_three2 (w : World) (O : Obj) (x y z : Value) (t : TypeId) : ∀ j u, [x, y, z][j]? = some u → ((w.alloc O).alloc (.cells #[x, y, z] t)).drew.cell? ((⟨w.heap.size + 1, 0, none⟩ : Addr).add j) = some u := by
  have h := news_three (w.alloc O) x y z t
  simpa using h

theorem cell_setCells3 (w : World) (b o : Nat) (x y z : Value) (p : Addr) (h : p.block ≠ b) : (w.setCells b o [x, y, z]).cell? p = w.cell? p := World.cell?_of_block (heap_setCells3 w b o x y z p.block h)

theorem spare2 {w : World} {B o : Nat} (O O' : Obj) (hB : B < w.heap.size) (h : ∀ j, j < 3 → (w.cell? ⟨B, o + j, none⟩).isSome = true ∧ w.frozen? ⟨B, o + j, none⟩ = false) :
    ∀ j, j < 3 → (((w.alloc O).alloc O').drew.cell? ⟨B, o + j, none⟩).isSome = true ∧ ((w.alloc O).alloc O').drew.frozen? ⟨B, o + j, none⟩ = false := by
  intro j hj
  have hb : Below (B + 1) w ((w.alloc O).alloc O').drew := (((Below.refl _ _).alloc hB _).alloc (by simp; omega) _).drew
  rw [hb.cell (p := ⟨B, o + j, none⟩) (Nat.lt_succ_self B), hb.frozen (p := ⟨B, o + j, none⟩) (Nat.lt_succ_self B)]
  exact h j hj

theorem heap_alloc2 (w : World) (O O' : Obj) : ∀ b, b < w.heap.size → ((w.alloc O).alloc O').drew.heap[b]? = w.heap[b]? := by
  intro b hb
  exact (Below.heap_alloc (w.alloc O) O' b (by simp; omega)).trans (Below.heap_alloc w O b hb)

theorem keep3 {w : World} {O O' : Obj} {B o : Nat} {x y z v : Value} {p : Addr} (hne : p.block ≠ B) (h : w.cell? p = some v) : (((w.alloc O).alloc O').drew.setCells B o [x, y, z]).cell? p = some v :=
  (cell_setCells3 _ _ _ _ _ _ _ hne).trans ((World.cell?_of_block (w := w) (heap_alloc2 w O O' p.block (cell_block h))).trans h)

theorem news_three2' (w : World) (O : Obj) (x y z : Value) (t : TypeId) : ∀ j u, [x, y, z][j]? = some u → ((w.alloc O).alloc (.cells #[x, y, z] t)).cell? ((⟨w.heap.size + 1, 0, none⟩ : Addr).add j) = some u := news_three2 w O x y z t
theorem spare2' {w : World} {B o : Nat} (O O' : Obj) (hB : B < w.heap.size) (h : ∀ j, j < 3 → (w.cell? ⟨B, o + j, none⟩).isSome = true ∧ w.frozen? ⟨B, o + j, none⟩ = false) :
    ∀ j, j < 3 → (((w.alloc O).alloc O').cell? ⟨B, o + j, none⟩).isSome = true ∧ ((w.alloc O).alloc O').frozen? ⟨B, o + j, none⟩ = false := spare2 O O' hB h
theorem heap_alloc2' (w : World) (O O' : Obj) : ∀ b, b < w.heap.size → ((w.alloc O).alloc O').heap[b]? = w.heap[b]? := heap_alloc2 w O O'

theorem Row3.hazards {w : World} {B n : Nat} {X Y Z : Nat → ByteArray} (h : Row3 w B 41 n n (fun i => .string (X i)) (fun i => .string (Y i)) (fun i => .string (Z i))) : HV w B (some ⟨B, 0, none⟩) n X Y Z :=
  .inr ⟨B, 0, rfl, Nat.le_refl _, fun _ hi => h.cells (Nat.le_refl _) hi⟩

end Go.Proofs.Qxb6632535a
