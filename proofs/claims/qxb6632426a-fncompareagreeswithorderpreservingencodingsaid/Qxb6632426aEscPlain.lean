/-
  SEAT b6632426a: THE PLAIN PART OF THE ENCODING LAW: the escaped flat encoding keeps the order. No Go in sight.
-/
import Derived.Test.Qxb6632426aPlain
namespace Go.Proofs.Qxb6632426a.Plain
open Go.Lib (compareBytes)

/-- one byte, escaped -/
def e1 (c : UInt8) : Bs := if c = 0 then [0, 255] else [c]
/-- a string, escaped, without its end -/
def esc (s : Bs) : Bs := s.flatMap e1
/-- a string, escaped, with its end -/
def escS (s : Bs) : Bs := esc s ++ [0, 1]
/-- a set of labels -/
def encL (A : List (Bs × Bs)) : Bs := A.flatMap fun p => escS p.1 ++ escS p.2

theorem esc_snoc (s : Bs) (c : UInt8) : esc (s ++ [c]) = esc s ++ e1 c := by simp [esc]
theorem encL_snoc (A : List (Bs × Bs)) (p : Bs × Bs) : encL (A ++ [p]) = encL A ++ escS p.1 ++ escS p.2 := by simp [encL]
theorem e1_len (c : UInt8) : 1 ≤ (e1 c).length ∧ (e1 c).length ≤ 2 := by unfold e1; split <;> simp
theorem esc_len : ∀ s : Bs, (esc s).length ≤ 2 * s.length
  | [] => by simp [esc]
  | c :: s => by
    have h1 := e1_len c
    have h2 := esc_len s
    simp only [esc, List.flatMap_cons, List.length_append, List.length_cons] at h2 ⊢
    omega
theorem escS_len (s : Bs) : (escS s).length ≤ 2 * s.length + 2 := by
  have := esc_len s
  simp only [escS, List.length_append, List.length_cons, List.length_nil]
  omega

theorem zero_lt {y : UInt8} (h : y ≠ 0) : (0 : UInt8) < y := by
  rw [UInt8.lt_iff_toNat_lt]
  have : y.toNat ≠ 0 := fun e => h (UInt8.toNat_inj.1 (by simpa using e))
  have h0 : (0 : UInt8).toNat = 0 := rfl
  omega

theorem cb_esc : ∀ (s t r r' : Bs), compareBytes (escS s ++ r) (escS t ++ r') = if compareBytes s t = 0 then compareBytes r r' else compareBytes s t
  | [], [], r, r' => by
    have h : ¬ (1 : UInt8) < 1 := by decide
    have h0 : ¬ (0 : UInt8) < 0 := by decide
    simp [escS, esc, compareBytes]
  | [], y :: t, r, r' => by
    by_cases hy : y = 0
    · subst hy
      have h2 : (1 : UInt8) < 255 := by decide
      simp [escS, esc, e1, compareBytes, h2]
    · have h1 := zero_lt hy
      simp [escS, esc, e1, hy, compareBytes, h1]
  | x :: s, [], r, r' => by
    by_cases hx : x = 0
    · subst hx
      have h2 : (1 : UInt8) < 255 := by decide
      have h3 : ¬ (255 : UInt8) < 1 := by decide
      simp [escS, esc, e1, compareBytes, h2, h3]
    · have h1 := zero_lt hx
      have h2 : ¬ x < 0 := fun h => UInt8.lt_irrefl _ (UInt8.lt_trans h h1)
      simp [escS, esc, e1, hx, compareBytes, h1, h2]
  | x :: s, y :: t, r, r' => by
    have ih := cb_esc s t r r'
    unfold escS at ih
    by_cases hx : x = 0
    · by_cases hy : y = 0
      · subst hx
        subst hy
        have h0 : ¬ (0 : UInt8) < 0 := by decide
        have h2 : ¬ (255 : UInt8) < 255 := by decide
        simp [escS, esc, e1, compareBytes] at ih ⊢
        exact ih
      · subst hx
        have h1 := zero_lt hy
        simp [escS, esc, e1, hy, compareBytes, h1]
    · by_cases hy : y = 0
      · subst hy
        have h1 := zero_lt hx
        have h2 : ¬ x < 0 := fun h => UInt8.lt_irrefl _ (UInt8.lt_trans h h1)
        simp [escS, esc, e1, hx, compareBytes, h1, h2]
      · by_cases h1 : x < y
        · simp [escS, esc, e1, hx, hy, compareBytes, h1]
        · by_cases h2 : y < x
          · simp [escS, esc, e1, hx, hy, compareBytes, h1, h2]
          · simp [escS, esc, e1, hx, hy, compareBytes, h1, h2] at ih ⊢
            exact ih

theorem escS_ne (s r : Bs) : ∃ x l, escS s ++ r = x :: l := by
  cases h : escS s ++ r with
  | nil => simp [escS] at h
  | cons x l => exact ⟨x, l, rfl⟩

theorem cb_encL : ∀ A B : List (Bs × Bs), compareBytes (encL A) (encL B) = cmpL A B
  | [], [] => rfl
  | [], y :: B => by
    obtain ⟨x, l, h⟩ := escS_ne y.1 (escS y.2 ++ encL B)
    have e : encL (y :: B) = x :: l := by rw [← h]; simp [encL]
    rw [e]
    rfl
  | x :: A, [] => by
    obtain ⟨z, l, h⟩ := escS_ne x.1 (escS x.2 ++ encL A)
    have e : encL (x :: A) = z :: l := by rw [← h]; simp [encL]
    rw [e]
    rfl
  | x :: A, y :: B => by
    have ea : encL (x :: A) = escS x.1 ++ (escS x.2 ++ encL A) := by simp [encL]
    have eb : encL (y :: B) = escS y.1 ++ (escS y.2 ++ encL B) := by simp [encL]
    rw [ea, eb, cb_esc, cb_esc, cb_encL A B]
    simp only [cmpL]

/-- what the loop of bytesCmp does: two rows of byte values told by functions -/
def cbF (n m : Nat) (X Y : Nat → Nat) : Nat → Nat → Int
  | 0, _ => if n < m then -1 else if m < n then 1 else 0
  | d + 1, k => if X k < Y k then -1 else if Y k < X k then 1 else cbF n m X Y d (k + 1)

theorem cbF_eq (x y : Bs) : ∀ d k, k + d = min x.length y.length → cbF x.length y.length (fun i => (x.getD i 0).toNat) (fun i => (y.getD i 0).toNat) d k = compareBytes (x.drop k) (y.drop k)
  | 0, k, h => by
    unfold cbF
    by_cases h1 : x.length < y.length
    · have : k = x.length := by omega
      subst this
      rw [List.drop_length, List.drop_eq_getElem_cons h1]
      simp [compareBytes, h1]
    · by_cases h2 : y.length < x.length
      · have : k = y.length := by omega
        subst this
        rw [List.drop_length, List.drop_eq_getElem_cons h2]
        simp [compareBytes, h1, h2]
      · rw [List.drop_eq_nil_of_le (show x.length ≤ k by omega), List.drop_eq_nil_of_le (show y.length ≤ k by omega)]
        simp [compareBytes, h1, h2]
  | d + 1, k, h => by
    unfold cbF
    have hx : k < x.length := by omega
    have hy : k < y.length := by omega
    rw [List.drop_eq_getElem_cons hx, List.drop_eq_getElem_cons hy, cbF_eq x y d (k + 1) (by omega)]
    simp [compareBytes, hx, hy, UInt8.lt_iff_toNat_lt]

end Go.Proofs.Qxb6632426a.Plain
