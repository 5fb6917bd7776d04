/-
  SEAT b6632535a: an argument of type []ZZStmt, opened.
-/
import Derived.Test.Qxb6632535aViews
import Derived.ProofKit
import Derived.OpenShut
import Derived.ShutString
import Derived.ChangeOld
import Derived.Below
import Derived.Deep.Slices
import Derived.Deep.Strs
namespace Go.Proofs.Qxb6632535a
open Go.ChangeShapes Go.WideShapes Go.ChangeAt Go.RowKit

theorem own : ownKnob Try.prog.godebug = none := by kernel_rfl
theorem laidOut : laidOutB Try.prog = true := by kernel_rfl
theorem Try.cells35 : Try.prog.cellsOf 35 = 3 := by kernel_rfl
theorem Try.cells38 : Try.prog.cellsOf 38 = 3 := by kernel_rfl
theorem Try.cells9 : Try.prog.cellsOf 9 = 1 := by kernel_rfl
theorem Try.cells33 : Try.prog.cellsOf 33 = 1 := by kernel_rfl
theorem Try.cells4 : Try.prog.cellsOf 4 = 1 := by kernel_rfl

/-- a slice of structs of three one-cell fields, opened at every index -/
theorem open_triples {H : Type} {enc : TypeId × Value → H} {P : Program} {w : World} {base : Nat} {spare : Nat → Bool} {held : Bool} {t e : TypeId} {f0 f1 f2 : Field} {fuel : Nat} {a : Option Addr} {len cap : Nat} {x : DataW H × List MemPlace}
    (ht : P.underlying t = some (.slice e)) (he : P.underlying e = some (.struct #[f0, f1, f2])) (ce : P.cellsOf e = 3) (o0 : f0.offset = 0) (o1 : f1.offset = 1) (o2 : f2.offset = 2) (c0 : P.cellsOf f0.type = 1) (c1 : P.cellsOf f1.type = 1) (c2 : P.cellsOf f2.type = 1)
    (h : DataW.trod enc P w base spare held fuel t [.slice a len cap] = some x) :
    (a = none ∧ len = 0 ∧ cap = 0) ∨ ∃ ad n, a = some ad ∧ len ≤ maxLen ∧ ∀ i, i < len → ∃ v0 v1 v2 y0 y1 y2, w.cell? (ad.add (i * 3)) = some v0 ∧ w.cell? (ad.add (i * 3 + 1)) = some v1 ∧ w.cell? (ad.add (i * 3 + 2)) = some v2 ∧
      DataW.trod enc P w base spare held n f0.type [v0] = some y0 ∧ DataW.trod enc P w base spare held n f1.type [v1] = some y1 ∧ DataW.trod enc P w base spare held n f2.type [v2] = some y2 := by
  rcases Deep.open_slice ht h with ⟨hcs, _⟩ | ⟨ad, l, c, m, n, D, Pl, hcs, _, hl, hm, hmm, _, hx⟩
  · simp at hcs
    exact .inl hcs
  · simp at hcs
    obtain ⟨rfl, rfl, rfl⟩ := hcs
    have hlm : len ≤ m := by rw [hmm]; split <;> omega
    refine .inr ⟨ad, n - 1, rfl, by omega, fun i hi => ?_⟩
    obtain ⟨cs, h1, h2⟩ := hx i (by omega)
    rw [ce] at h1
    obtain ⟨_, hlen, hcell⟩ := World.cells?_some h1
    obtain ⟨xs, k, hk, _, _, hxl, hf⟩ := DataW.trod_struct he h2
    have hk' : k = n - 1 := by omega
    subst hk'
    match xs, hxl, cs, hlen with
    | [y0, y1, y2], _, [v0, v1, v2], _ =>
      have g0 := hf 0 f0 rfl
      have g1 := hf 1 f1 rfl
      have g2 := hf 2 f2 rfl
      simp [o0, o1, o2, c0, c1, c2] at g0 g1 g2
      have e0 := hcell 0 (by omega)
      have e1 := hcell 1 (by omega)
      have e2 := hcell 2 (by omega)
      rw [Deep.add_add] at e0 e1 e2
      exact ⟨v0, v1, v2, y0, y1, y2, by simpa using e0, by simpa using e1, by simpa using e2, g0, g1, g2⟩

theorem open_hazards {H : Type} {enc : TypeId × Value → H} {W : World} {base : Nat} {spare : Nat → Bool} {held : Bool} {a : Option Addr} {len cap fuel : Nat} {x : DataW H × List MemPlace}
    (h : DataW.trod enc Try.prog W base spare held fuel 33 [.slice a len cap] = some x) : ∃ f : Nat → ByteArray × ByteArray × ByteArray, HV W 0 a len (fun i => (f i).1) (fun i => (f i).2.1) (fun i => (f i).2.2) ∧ (a = none → len = 0) ∧ len ≤ 9223372036854775807 := by
  rcases open_triples Try.underlying33 Try.underlying38 Try.cells38 rfl rfl rfl Try.cells9 Try.cells9 Try.cells9 h with ⟨rfl, rfl, rfl⟩ | ⟨ad, n, rfl, hm, hc⟩
  · exact ⟨fun _ => default, .inl rfl, fun _ => rfl, by omega⟩
  · have hmx : len ≤ 9223372036854775807 := by unfold maxLen at hm; omega
    by_cases hz : len = 0
    · exact ⟨fun _ => default, .inl hz, (fun h => by cases h), hmx⟩
    · have each : ∀ i, i < len → ∃ q : ByteArray × ByteArray × ByteArray, W.cell? (ad.add (i * 3)) = some (.string q.1) ∧ W.cell? (ad.add (i * 3 + 1)) = some (.string q.2.1) ∧ W.cell? (ad.add (i * 3 + 2)) = some (.string q.2.2) := by
        intro i hi
        obtain ⟨v0, v1, v2, y0, y1, y2, g0, g1, g2, t0, t1, t2⟩ := hc i hi
        obtain ⟨s0, e0, _, _⟩ := DataW.trod_string Try.underlying9 t0
        obtain ⟨s1, e1, _, _⟩ := DataW.trod_string Try.underlying9 t1
        obtain ⟨s2, e2, _, _⟩ := DataW.trod_string Try.underlying9 t2
        simp at e0 e1 e2
        exact ⟨(s0, s1, s2), by rw [g0, e0], by rw [g1, e1], by rw [g2, e2]⟩
      obtain ⟨q, hq⟩ := Deep.choose_lt each
      obtain ⟨b, off, spot⟩ := ad
      have hspot : spot = none := by simpa [Addr.add] using World.cell?_spot (hq 0 (by omega)).1
      subst hspot
      refine ⟨q, .inr ⟨b, off, rfl, Nat.zero_le _, fun i hi => ?_⟩, (fun h => by cases h), hmx⟩
      obtain ⟨g0, g1, g2⟩ := hq i hi
      rw [add_plain] at g0 g1 g2
      exact ⟨g0, g1, g2⟩

theorem open_stmts {H : Type} {enc : TypeId × Value → H} {W : World} {base : Nat} {spare : Nat → Bool} {held : Bool} {a : Option Addr} {len cap : Nat} {d : DataW H} {ps : List MemPlace}
    (h : DataW.Trod enc Try.prog W base spare held 22 (.slice a len cap) d ps) : ∃ K A cp, SV W a len K A cp ∧ len ≤ 9223372036854775807 ∧ (∀ i, i < len → K.L i ≤ 9223372036854775807) ∧ ∀ i, i < len → A i = none → K.L i = 0 := by
  obtain ⟨fuel, hf⟩ := h
  rcases open_triples Try.underlying22 Try.underlying35 Try.cells35 rfl rfl rfl Try.cells9 Try.cells33 Try.cells4 hf with ⟨rfl, rfl, rfl⟩ | ⟨ad, n, rfl, hm, hc⟩
  · exact ⟨⟨fun _ => ByteArray.empty, fun _ => 0, fun _ => true, fun _ _ => ByteArray.empty, fun _ _ => ByteArray.empty, fun _ _ => ByteArray.empty⟩, fun _ => none, fun _ => 0, .inl rfl, by omega, fun i hi => by omega, fun i hi => by omega⟩
  · have hmx : len ≤ 9223372036854775807 := by unfold maxLen at hm; omega
    by_cases hz : len = 0
    · subst hz
      exact ⟨⟨fun _ => ByteArray.empty, fun _ => 0, fun _ => true, fun _ _ => ByteArray.empty, fun _ _ => ByteArray.empty, fun _ _ => ByteArray.empty⟩, fun _ => none, fun _ => 0, .inl rfl, by omega, fun i hi => by omega, fun i hi => by omega⟩
    · have each : ∀ i, i < len → ∃ q : ByteArray × (Option Addr × Nat × Nat) × Bool × (Nat → ByteArray × ByteArray × ByteArray), W.cell? (ad.add (i * 3)) = some (.string q.1) ∧ W.cell? (ad.add (i * 3 + 1)) = some (.slice q.2.1.1 q.2.1.2.1 q.2.1.2.2) ∧ W.cell? (ad.add (i * 3 + 2)) = some (.bool q.2.2.1) ∧
          HV W 0 q.2.1.1 q.2.1.2.1 (fun i => (q.2.2.2 i).1) (fun i => (q.2.2.2 i).2.1) (fun i => (q.2.2.2 i).2.2) ∧ (q.2.1.1 = none → q.2.1.2.1 = 0) ∧ q.2.1.2.1 ≤ 9223372036854775807 := by
        intro i hi
        obtain ⟨v0, v1, v2, y0, y1, y2, g0, g1, g2, t0, t1, t2⟩ := hc i hi
        obtain ⟨s0, e0, _, _⟩ := DataW.trod_string Try.underlying9 t0
        obtain ⟨c, e2, _⟩ := DataW.trod_bool Try.underlying4 t2
        simp at e0 e2
        obtain ⟨a1, l1, c1, e1⟩ : ∃ a1 l1 c1, v1 = .slice a1 l1 c1 := by
          rcases Deep.open_slice Try.underlying33 t1 with ⟨hcs, _⟩ | ⟨ad, l, c, m, n, D, Pl, hcs, _⟩
          · simp at hcs; exact ⟨_, _, _, hcs⟩
          · simp at hcs; exact ⟨_, _, _, hcs⟩
        subst e1
        obtain ⟨f, hv, hn, hl⟩ := open_hazards t1
        exact ⟨(s0, (a1, l1, c1), c, f), by rw [g0, e0], by rw [g1], by rw [g2, e2], hv, hn, hl⟩
      obtain ⟨q, hq⟩ := Deep.choose_lt each
      obtain ⟨b, off, spot⟩ := ad
      have hspot : spot = none := by simpa [Addr.add] using World.cell?_spot (hq 0 (by omega)).1
      subst hspot
      refine ⟨⟨fun i => (q i).1, fun i => (q i).2.1.2.1, fun i => (q i).2.2.1, fun i j => ((q i).2.2.2 j).1, fun i j => ((q i).2.2.2 j).2.1, fun i j => ((q i).2.2.2 j).2.2⟩, fun i => (q i).2.1.1, fun i => (q i).2.1.2.2, .inr ⟨b, off, rfl, fun i hi => ?_⟩, hmx, fun i hi => (hq i hi).2.2.2.2.2, fun i hi => (hq i hi).2.2.2.2.1⟩
      obtain ⟨g0, g1, g2, g3, _⟩ := hq i hi
      rw [add_plain] at g0 g1 g2
      exact ⟨g0, g1, g2, g3⟩

end Go.Proofs.Qxb6632535a
