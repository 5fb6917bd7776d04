/-
  SEAT b6634831a: the callees by their contracts: an operator text is one of the five symbols, or it holds nowhere.
-/
import Derived.Test.Qxb6634831aRows
import Derived.WalkKit
import Derived.WalkSpells
import Derived.WalkLawsBesides
namespace Go.Proofs.Qxb6634831a
open Go.RowKit

/-- none of the five symbols -/
structure Other (o : ByteArray) : Prop where
  ge : (o.toList == [62, 61]) = false
  gt : (o.toList == [62]) = false
  le : (o.toList == [60, 61]) = false
  lt : (o.toList == [60]) = false
  eq : (o.toList == [61]) = false

set_option maxHeartbeats 400000 in
theorem holds_other (o : ByteArray) (s : Int) (w : World) (h : Other o) :
    Calls Try.prog 6 #[.string o, .int .i64 s] w fun e w' => e = .returned (.bool false) ∧ w' = w := by
  have h1 := h.ge
  have h2 := h.gt
  have h3 := h.le
  have h4 := h.lt
  have h5 := h.eq
  go_enter Try.func6, Try.ntmps6
  go_wp2
  go_ret
  exact ⟨rfl, rfl⟩

theorem one_byte {o : ByteArray} (h : o.size = 1) (hp : 0 < o.size) : o.toList = [o[0]'hp] := by
  rw [ByteArray.toList_eq]
  obtain ⟨⟨l⟩⟩ := o
  match l, h with
  | [x], _ => rfl
theorem two_bytes {o : ByteArray} (h : o.size = 2) (hp : 0 < o.size) (hq : 1 < o.size) : o.toList = [o[0]'hp, o[1]'hq] := by
  rw [ByteArray.toList_eq]
  obtain ⟨⟨l⟩⟩ := o
  match l, h with
  | [x, y], _ => rfl

theorem ret_bool {a b : Bool} (h : a = b) : Ending.returned (.bool a) = .returned (.bool b) := by rw [h]
theorem byte_eq {c d : UInt8} (h : (c.toNat : Int) = (d.toNat : Int)) : c = d := UInt8.toNat_inj.1 (by omega)

set_option maxHeartbeats 400000 in
theorem isOp_other (o : ByteArray) (w : World) (h : Other o) :
    Calls Try.prog 8 #[.string o] w fun e w' => e = .returned (.bool false) ∧ w' = w := by
  by_cases s1 : o.size = 1
  · have hp : 0 < o.size := by omega
    have hl := one_byte s1 hp
    have h2 := h.gt
    have h4 := h.lt
    have h5 := h.eq
    rw [hl] at h2 h4 h5
    have k2 : (((o[0]'hp).toNat : Int) == 62) = false := by
      cases hb : (((o[0]'hp).toNat : Int) == 62) with
      | false => rfl
      | true => rw [byte_eq (c := o[0]'hp) (d := 62) (by simpa using hb)] at h2; revert h2; decide
    have k4 : (((o[0]'hp).toNat : Int) == 60) = false := by
      cases hb : (((o[0]'hp).toNat : Int) == 60) with
      | false => rfl
      | true => rw [byte_eq (c := o[0]'hp) (d := 60) (by simpa using hb)] at h4; revert h4; decide
    have k5 : (((o[0]'hp).toNat : Int) == 61) = false := by
      cases hb : (((o[0]'hp).toNat : Int) == 61) with
      | false => rfl
      | true => rw [byte_eq (c := o[0]'hp) (d := 61) (by simpa using hb)] at h5; revert h5; decide
    have s1' : ((o.size : Int) == 1) = true := by simp [s1]
    have s2 : (0 : Int) < (o.size : Int) := by omega
    clear hl h2 h4 h5 s1
    go_enter Try.func8, Try.ntmps8
    go_wp2
    go_ret
    exact ⟨rfl, rfl⟩
  · by_cases s2 : o.size = 2
    · have hp : 0 < o.size := by omega
      have hq : 1 < o.size := by omega
      have hl := two_bytes s2 hp hq
      have h2 := h.ge
      have h4 := h.le
      rw [hl] at h2 h4
      have kk : ((o[0]'hp).toNat : Int) = 60 ∨ ((o[0]'hp).toNat : Int) = 62 → (((o[1]'hq).toNat : Int) == 61) = false := by
        intro hh
        cases hb : (((o[1]'hq).toNat : Int) == 61) with
        | false => rfl
        | true =>
          rw [byte_eq (c := o[1]'hq) (d := 61) (by simpa using hb)] at h2 h4
          rcases hh with hh | hh
          · rw [byte_eq (c := o[0]'hp) (d := 60) (by simpa using hh)] at h4; revert h4; decide
          · rw [byte_eq (c := o[0]'hp) (d := 62) (by simpa using hh)] at h2; revert h2; decide
      have KK : Hid (((o[0]'hp).toNat : Int) = 60 ∨ ((o[0]'hp).toNat : Int) = 62 → (((o[1]'hq).toNat : Int) == 61) = false) := kk
      have s1' : ((o.size : Int) == 1) = false := by simp; omega
      have s2' : ((o.size : Int) == 2) = true := by simp [s2]
      clear hl h2 h4 kk s1 s2
      go_enter Try.func8, Try.ntmps8
      go_wp2
      all_goals go_ret
      all_goals first
        | exact ⟨ret_bool (KK.out (.inl (by assumption))), rfl⟩
        | exact ⟨ret_bool (KK.out (.inr (by assumption))), rfl⟩
        | exact ⟨rfl, rfl⟩
    · have s1' : ((o.size : Int) == 1) = false := by simp; omega
      have s2' : ((o.size : Int) == 2) = false := by simp; omega
      clear s1 s2
      go_enter Try.func8, Try.ntmps8
      go_wp2
      go_ret
      exact ⟨rfl, rfl⟩

theorem of_bytes {o : ByteArray} {l : List UInt8} (h : (o.toList == l) = true) : o = ⟨⟨l⟩⟩ := by
  rw [ByteArray.toList_eq] at h
  obtain ⟨⟨m⟩⟩ := o
  have e : m = l := by simpa using h
  rw [e]

/-- one of the five symbols, or none of them -/
theorem five (o : ByteArray) : o = ⟨#[62, 61]⟩ ∨ o = ⟨#[62]⟩ ∨ o = ⟨#[60, 61]⟩ ∨ o = ⟨#[60]⟩ ∨ o = ⟨#[61]⟩ ∨ Other o := by
  cases h1 : (o.toList == [62, 61]) with
  | true => exact .inl (of_bytes h1)
  | false =>
    cases h2 : (o.toList == [62]) with
    | true => exact .inr (.inl (of_bytes h2))
    | false =>
      cases h3 : (o.toList == [60, 61]) with
      | true => exact .inr (.inr (.inl (of_bytes h3)))
      | false =>
        cases h4 : (o.toList == [60]) with
        | true => exact .inr (.inr (.inr (.inl (of_bytes h4))))
        | false =>
          cases h5 : (o.toList == [61]) with
          | true => exact .inr (.inr (.inr (.inr (.inl (of_bytes h5)))))
          | false => exact .inr (.inr (.inr (.inr (.inr ⟨h1, h2, h3, h4, h5⟩))))

end Go.Proofs.Qxb6634831a
