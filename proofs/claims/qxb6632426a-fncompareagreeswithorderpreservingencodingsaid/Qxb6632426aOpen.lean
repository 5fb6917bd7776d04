/-
  SEAT b6632426a: an argument of type []LabelIn, opened.
-/
import Derived.Test.Qxb6632426aCompare
import Derived.ProofKit
import Derived.OpenShut
import Derived.ShutString
import Derived.ChangeOld
import Derived.Below
import Derived.Deep.SlicePairs
namespace Go.Proofs.Qxb6632426a
open Go.ChangeShapes Go.WideShapes Go.ChangeAt Go.RowKit

theorem own : ownKnob Try.prog.godebug = none := by kernel_rfl
theorem laidOut : laidOutB Try.prog = true := by kernel_rfl
theorem Try.cells35 : Try.prog.cellsOf 35 = 2 := by kernel_rfl
theorem Try.cells9 : Try.prog.cellsOf 9 = 1 := by kernel_rfl

theorem open_labs {H : Type} {enc : TypeId × Value → H} {W : World} {base : Nat} {spare : Nat → Bool} {held : Bool} {a : Option Addr} {len cap : Nat} {d : DataW H} {ps : List MemPlace}
    (h : DataW.Trod enc Try.prog W base spare held 22 (.slice a len cap) d ps) : ∃ N V, LV W a len N V ∧ (a = none → len = 0) ∧ len ≤ 9223372036854775807 := by
  obtain ⟨fuel, hf⟩ := h
  rcases Deep.open_slice_pairs Try.underlying22 Try.underlying35 Try.cells35 rfl rfl Try.cells9 Try.cells9 hf with ⟨hcs, _⟩ | ⟨x, l, c, m, n, V0, V1, D0, D1, P0, P1, hcs, _, hl, hm, hmm, _, hc⟩
  · simp [Value.cells] at hcs
    obtain ⟨rfl, rfl, rfl⟩ := hcs
    exact ⟨fun _ => ByteArray.empty, fun _ => ByteArray.empty, .inl rfl, fun _ => rfl, by omega⟩
  · simp [Value.cells] at hcs
    obtain ⟨rfl, rfl, rfl⟩ := hcs
    have hlm : len ≤ m := by rw [hmm]; split <;> omega
    have each : ∀ i, i < len → ∃ q : ByteArray × ByteArray, W.cell? (x.add (i * 2)) = some (.string q.1) ∧ W.cell? (x.add (i * 2 + 1)) = some (.string q.2) := by
      intro i hi
      obtain ⟨g0, g1, t0, t1⟩ := hc i (by omega)
      obtain ⟨s0, e0, _, _⟩ := DataW.trod_string Try.underlying9 t0
      obtain ⟨s1, e1, _, _⟩ := DataW.trod_string Try.underlying9 t1
      simp at e0 e1
      exact ⟨(s0, s1), by rw [g0, e0], by rw [g1, e1]⟩
    have hmx : len ≤ 9223372036854775807 := by unfold maxLen at hm; omega
    by_cases hz : len = 0
    · exact ⟨fun _ => ByteArray.empty, fun _ => ByteArray.empty, .inl hz, (fun h => by cases h), hmx⟩
    · obtain ⟨q, hq⟩ := Deep.choose_lt each
      obtain ⟨b, off, spot⟩ := x
      have hspot : spot = none := by simpa [Addr.add] using World.cell?_spot (hq 0 (by omega)).1
      subst hspot
      refine ⟨fun i => (q i).1, fun i => (q i).2, .inr ⟨b, off, rfl, fun i hi => ?_⟩, fun h => (by cases h), hmx⟩
      obtain ⟨g0, g1⟩ := hq i hi
      rw [add_plain] at g0 g1
      exact ⟨g0, g1⟩

end Go.Proofs.Qxb6632426a
