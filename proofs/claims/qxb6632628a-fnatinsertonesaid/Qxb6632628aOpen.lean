/-
  SEAT b6632628a: an argument of type []Def, opened.
-/
import Derived.Test.Qxb6632628aViews
import Derived.ProofKit
import Derived.OpenShut
import Derived.ShutString
import Derived.ChangeOld
import Derived.Below
import Derived.Deep.Slices
namespace Go.Proofs.Qxb6632628a
open Go.ChangeShapes Go.WideShapes Go.ChangeAt Go.RowKit

theorem own : ownKnob Try.prog.godebug = none := by kernel_rfl
theorem laidOut : laidOutB Try.prog = true := by kernel_rfl
theorem Try.cells31 : Try.prog.cellsOf 31 = 3 := by kernel_rfl
theorem Try.cells9 : Try.prog.cellsOf 9 = 1 := by kernel_rfl
theorem Try.cells3 : Try.prog.cellsOf 3 = 1 := by kernel_rfl

/-- a slice of structs of three one-cell fields, opened at every index -/
theorem open_triples {H : Type} {enc : TypeId × Value → H} {P : Program} {w : World} {base : Nat} {spare : Nat → Bool} {held : Bool} {t e : TypeId} {f0 f1 f2 : Field} {fuel : Nat} {a : Option Addr} {len cap : Nat} {x : DataW H × List MemPlace}
    (ht : P.underlying t = some (.slice e)) (he : P.underlying e = some (.struct #[f0, f1, f2])) (ce : P.cellsOf e = 3) (o0 : f0.offset = 0) (o1 : f1.offset = 1) (o2 : f2.offset = 2) (c0 : P.cellsOf f0.type = 1) (c1 : P.cellsOf f1.type = 1) (c2 : P.cellsOf f2.type = 1)
    (h : DataW.trod enc P w base spare held fuel t [.slice a len cap] = some x) :
    (a = none ∧ len = 0 ∧ cap = 0) ∨ ∃ ad n, a = some ad ∧ len ≤ maxLen ∧ ∀ i, i < len → ∃ v0 v1 v2 y0 y1 y2, w.cell? (ad.add (i * 3)) = some v0 ∧ w.cell? (ad.add (i * 3 + 1)) = some v1 ∧ w.cell? (ad.add (i * 3 + 2)) = some v2 ∧
      DataW.trod enc P w base spare held n f0.type [v0] = some y0 ∧ DataW.trod enc P w base spare held n f1.type [v1] = some y1 ∧ DataW.trod enc P w base spare held n f2.type [v2] = some y2 := by
  rcases Deep.open_slice ht h with ⟨hcs, _⟩ | ⟨ad, l, c, m, n, D, Pl, hcs, _, hl, hm, hmm, _, hx⟩
  · simp at hcs
    exact .inl hcs
  · simp at hcs
    obtain ⟨rfl, rfl, rfl⟩ := hcs
    have hlm : len ≤ m := by rw [hmm]; split <;> omega
    refine .inr ⟨ad, n - 1, rfl, by omega, fun i hi => ?_⟩
    obtain ⟨cs, h1, h2⟩ := hx i (by omega)
    rw [ce] at h1
    obtain ⟨_, hlen, hcell⟩ := World.cells?_some h1
    obtain ⟨xs, k, hk, _, _, hxl, hf⟩ := DataW.trod_struct he h2
    have hk' : k = n - 1 := by omega
    subst hk'
    match xs, hxl, cs, hlen with
    | [y0, y1, y2], _, [v0, v1, v2], _ =>
      have g0 := hf 0 f0 rfl
      have g1 := hf 1 f1 rfl
      have g2 := hf 2 f2 rfl
      simp [o0, o1, o2, c0, c1, c2] at g0 g1 g2
      have e0 := hcell 0 (by omega)
      have e1 := hcell 1 (by omega)
      have e2 := hcell 2 (by omega)
      rw [Deep.add_add] at e0 e1 e2
      exact ⟨v0, v1, v2, y0, y1, y2, by simpa using e0, by simpa using e1, by simpa using e2, g0, g1, g2⟩

theorem open_defs {H : Type} {enc : TypeId × Value → H} {W : World} {base : Nat} {spare : Nat → Bool} {held : Bool} {a : Option Addr} {len cap : Nat} {d : DataW H} {ps : List MemPlace}
    (h : DataW.Trod enc Try.prog W base spare held 22 (.slice a len cap) d ps) : ∃ S F L, DV W a len S F L ∧ (a = none → len = 0) ∧ len ≤ 9223372036854775807 := by
  obtain ⟨fuel, hf⟩ := h
  rcases open_triples Try.underlying22 Try.underlying31 Try.cells31 rfl rfl rfl Try.cells9 Try.cells3 Try.cells3 hf with ⟨rfl, rfl, rfl⟩ | ⟨ad, n, rfl, hm, hc⟩
  · exact ⟨fun _ => ByteArray.empty, fun _ => 0, fun _ => 0, .inl rfl, fun _ => rfl, by omega⟩
  · have hmx : len ≤ 9223372036854775807 := by unfold maxLen at hm; omega
    by_cases hz : len = 0
    · exact ⟨fun _ => ByteArray.empty, fun _ => 0, fun _ => 0, .inl hz, (fun h => by cases h), hmx⟩
    · have each : ∀ i, i < len → ∃ q : ByteArray × Int × Int, W.cell? (ad.add (i * 3)) = some (.string q.1) ∧ W.cell? (ad.add (i * 3 + 1)) = some (.int .i64 q.2.1) ∧ W.cell? (ad.add (i * 3 + 2)) = some (.int .i64 q.2.2) := by
        intro i hi
        obtain ⟨v0, v1, v2, y0, y1, y2, g0, g1, g2, t0, t1, t2⟩ := hc i hi
        obtain ⟨s0, e0, _, _⟩ := DataW.trod_string Try.underlying9 t0
        obtain ⟨s1, e1, _, _⟩ := DataW.trod_int Try.underlying3 t1
        obtain ⟨s2, e2, _, _⟩ := DataW.trod_int Try.underlying3 t2
        simp at e0 e1 e2
        exact ⟨(s0, s1, s2), by rw [g0, e0], by rw [g1, e1], by rw [g2, e2]⟩
      obtain ⟨q, hq⟩ := Deep.choose_lt each
      obtain ⟨b, off, spot⟩ := ad
      have hspot : spot = none := by simpa [Addr.add] using World.cell?_spot (hq 0 (by omega)).1
      subst hspot
      refine ⟨fun i => (q i).1, fun i => (q i).2.1, fun i => (q i).2.2, .inr ⟨b, off, rfl, fun i hi => ?_⟩, (fun h => by cases h), hmx⟩
      obtain ⟨g0, g1, g2⟩ := hq i hi
      rw [add_plain] at g0 g1 g2
      exact ⟨g0, g1, g2⟩

end Go.Proofs.Qxb6632628a
