/-
  SEAT b6632535a: what the walks are told of a slice of statements and of a slice of hazards.
-/
import Derived.Test.Qxb6632535aRows
import Derived.WalkKit
import Derived.WalkSpells
import Derived.WalkLawsBesides
import Derived.Deep.OwnRows
import Derived.Deep.QuietTactic
import Derived.BigQuiet
namespace Go.Proofs.Qxb6632535a
open Go.RowKit

/-- what n statements hold: SQL, the number of hazards, the flag, the hazards' three strings -/
structure Con where
  S : Nat → ByteArray
  L : Nat → Nat
  C : Nat → Bool
  X : Nat → Nat → ByteArray
  Y : Nat → Nat → ByteArray
  Z : Nat → Nat → ByteArray

/-- A SLICE OF n HAZARDS (three strings each), its block not below lo: it is empty; or its cells lie at an address. -/
def HV (w : World) (lo : Nat) (a : Option Addr) (n : Nat) (X Y Z : Nat → ByteArray) : Prop :=
  n = 0 ∨ ∃ b off, a = some ⟨b, off, none⟩ ∧ lo ≤ b ∧ ∀ i, i < n → w.cell? ⟨b, off + i * 3, none⟩ = some (.string (X i)) ∧ w.cell? ⟨b, off + i * 3 + 1, none⟩ = some (.string (Y i)) ∧ w.cell? ⟨b, off + i * 3 + 2, none⟩ = some (.string (Z i))

/-- A SLICE OF n STATEMENTS with the content K; statement i's hazards slice is '.slice (A i) (K.L i) (cp i)'. -/
def SV (w : World) (a : Option Addr) (n : Nat) (K : Con) (A : Nat → Option Addr) (cp : Nat → Nat) : Prop :=
  n = 0 ∨ ∃ b off, a = some ⟨b, off, none⟩ ∧ ∀ i, i < n → w.cell? ⟨b, off + i * 3, none⟩ = some (.string (K.S i)) ∧ w.cell? ⟨b, off + i * 3 + 1, none⟩ = some (.slice (A i) (K.L i) (cp i)) ∧ w.cell? ⟨b, off + i * 3 + 2, none⟩ = some (.bool (K.C i)) ∧ HV w 0 (A i) (K.L i) (K.X i) (K.Y i) (K.Z i)

theorem cell_block {w : World} {p : Addr} {v : Value} (h : w.cell? p = some v) : p.block < w.heap.size := by
  cases hb : w.heap[p.block]? with
  | none => simp [World.cell?, hb] at h
  | some o => exact (Array.getElem?_eq_some_iff.1 hb).1

theorem HV.below {w w' : World} {lo : Nat} {a : Option Addr} {n : Nat} {X Y Z : Nat → ByteArray} (h : HV w lo a n X Y Z) (hb : Below w.heap.size w w') : HV w' lo a n X Y Z := by
  rcases h with h | ⟨b, off, ha, hlo, hc⟩
  · exact .inl h
  · refine .inr ⟨b, off, ha, hlo, fun i hi => ?_⟩
    obtain ⟨h1, h2, h3⟩ := hc i hi
    exact ⟨(hb.cell (cell_block h1)).trans h1, (hb.cell (cell_block h2)).trans h2, (hb.cell (cell_block h3)).trans h3⟩

theorem HV.lower {w : World} {lo lo' : Nat} {a : Option Addr} {n : Nat} {X Y Z : Nat → ByteArray} (h : HV w lo a n X Y Z) (hl : lo' ≤ lo) : HV w lo' a n X Y Z := by
  rcases h with h | ⟨b, off, ha, hlo, hc⟩
  · exact .inl h
  · exact .inr ⟨b, off, ha, Nat.le_trans hl hlo, hc⟩

theorem SV.below {w w' : World} {a : Option Addr} {n : Nat} {K : Con} {A : Nat → Option Addr} {cp : Nat → Nat} (h : SV w a n K A cp) (hb : Below w.heap.size w w') : SV w' a n K A cp := by
  rcases h with h | ⟨b, off, ha, hc⟩
  · exact .inl h
  · refine .inr ⟨b, off, ha, fun i hi => ?_⟩
    obtain ⟨h1, h2, h3, h4⟩ := hc i hi
    exact ⟨(hb.cell (cell_block h1)).trans h1, (hb.cell (cell_block h2)).trans h2, (hb.cell (cell_block h3)).trans h3, h4.below hb⟩

/-- a bool comes back; where it is true, p holds; nothing that was there has turned -/
def GuardPost (w : World) (p : Prop) (e : Ending) (w' : World) : Prop := ∃ r : Bool, e = .returned (.bool r) ∧ (r = true → p) ∧ Below w.heap.size w w'
theorem guard_no {w w' : World} {p : Prop} {e : Ending} (he : e = .returned (.bool false)) (hw : Below w.heap.size w w') : GuardPost w p e w' := ⟨false, he, (fun h => by cases h), hw⟩
theorem guard_yes {w w' : World} {p : Prop} {e : Ending} (hp : p) (he : e = .returned (.bool true)) (hw : Below w.heap.size w w') : GuardPost w p e w' := ⟨true, he, fun _ => hp, hw⟩

end Go.Proofs.Qxb6632535a
