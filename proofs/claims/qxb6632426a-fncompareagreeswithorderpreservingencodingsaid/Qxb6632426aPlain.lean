/-
  SEAT b6632426a: THE PLAIN PART: label sets as lists of pairs of byte lists; their order. No Go in sight.
-/
import Derived.Lib.Bytealg
namespace Go.Proofs.Qxb6632426a.Plain
open Go.Lib (compareBytes)

abbrev Bs := List UInt8

theorem cb_self : ∀ a : Bs, compareBytes a a = 0
  | [] => rfl
  | x :: a => by
    have h : ¬ x < x := UInt8.lt_irrefl x
    simp [compareBytes, h, cb_self a]

theorem cb_cases : ∀ a b : Bs, compareBytes a b = -1 ∨ compareBytes a b = 0 ∨ compareBytes a b = 1
  | [], [] => by simp [compareBytes]
  | [], _ :: _ => by simp [compareBytes]
  | _ :: _, [] => by simp [compareBytes]
  | x :: a, y :: b => by
    unfold compareBytes
    split
    · simp
    · split
      · simp
      · exact cb_cases a b

theorem cb_swap : ∀ a b : Bs, compareBytes b a = - compareBytes a b
  | [], [] => by simp [compareBytes]
  | [], _ :: _ => by simp [compareBytes]
  | _ :: _, [] => by simp [compareBytes]
  | x :: a, y :: b => by
    unfold compareBytes
    have ih := cb_swap a b
    by_cases h1 : x < y
    · have h2 : ¬ y < x := fun h => UInt8.lt_irrefl x (UInt8.lt_trans h1 h)
      simp [h1, h2]
    · by_cases h2 : y < x
      · simp [h1, h2]
      · simp [h1, h2, ih]

theorem cb_zero : ∀ a b : Bs, compareBytes a b = 0 → a = b
  | [], [], _ => rfl
  | [], _ :: _, h => by simp [compareBytes] at h
  | _ :: _, [], h => by simp [compareBytes] at h
  | x :: a, y :: b, h => by
    unfold compareBytes at h
    by_cases h1 : x < y
    · simp [h1] at h
    · by_cases h2 : y < x
      · simp [h1, h2] at h
      · simp [h1, h2] at h
        have e : x = y := UInt8.le_antisymm (UInt8.not_lt.1 h2) (UInt8.not_lt.1 h1)
        rw [e, cb_zero a b h]

/-- 'storage.Compare' over lists of pairs. -/
def cmpL : List (Bs × Bs) → List (Bs × Bs) → Int
  | [], [] => 0
  | [], _ :: _ => -1
  | _ :: _, [] => 1
  | x :: a, y :: b => if compareBytes x.1 y.1 = 0 then (if compareBytes x.2 y.2 = 0 then cmpL a b else compareBytes x.2 y.2) else compareBytes x.1 y.1

theorem cmpL_self : ∀ a, cmpL a a = 0
  | [] => rfl
  | x :: a => by simp [cmpL, cb_self, cmpL_self a]

theorem cmpL_cases : ∀ a b, cmpL a b = -1 ∨ cmpL a b = 0 ∨ cmpL a b = 1
  | [], [] => by simp [cmpL]
  | [], _ :: _ => by simp [cmpL]
  | _ :: _, [] => by simp [cmpL]
  | x :: a, y :: b => by
    unfold cmpL
    split
    · split
      · exact cmpL_cases a b
      · exact cb_cases _ _
    · exact cb_cases _ _

theorem cmpL_swap : ∀ a b, cmpL b a = - cmpL a b
  | [], [] => by simp [cmpL]
  | [], _ :: _ => by simp [cmpL]
  | _ :: _, [] => by simp [cmpL]
  | x :: a, y :: b => by
    unfold cmpL
    have ih := cmpL_swap a b
    have h1 := cb_swap x.1 y.1
    have h2 := cb_swap x.2 y.2
    rw [h1, h2, ih]
    by_cases e1 : compareBytes x.1 y.1 = 0
    · by_cases e2 : compareBytes x.2 y.2 = 0
      · simp [e1, e2]
      · simp [e1, e2]
    · simp [e1]

theorem cmpL_pfx : ∀ p a b, cmpL (p ++ a) (p ++ b) = cmpL a b
  | [], _, _ => rfl
  | x :: p, a, b => by simp [cmpL, cb_self, cmpL_pfx p a b]

theorem cmpL_proper (p a) : cmpL (p ++ a) p = if a.length = 0 then 0 else 1 := by
  have h := cmpL_pfx p a []
  rw [List.append_nil] at h
  rw [h]
  cases a <;> simp [cmpL]

/-- the same from an index on, the two sets told by functions: what the loop does -/
def cmpF (n m : Nat) (N V N' V' : Nat → Bs) : Nat → Nat → Int
  | 0, _ => if n < m then -1 else if m < n then 1 else 0
  | d + 1, k => if compareBytes (N k) (N' k) = 0 then (if compareBytes (V k) (V' k) = 0 then cmpF n m N V N' V' d (k + 1) else compareBytes (V k) (V' k)) else compareBytes (N k) (N' k)

def labs (n : Nat) (N V : Nat → Bs) : List (Bs × Bs) := (List.range n).map fun i => (N i, V i)

theorem labs_drop (n : Nat) (N V : Nat → Bs) (k : Nat) (h : k < n) : (labs n N V).drop k = (N k, V k) :: (labs n N V).drop (k + 1) := by
  have hl : k < (labs n N V).length := by simpa [labs] using h
  rw [List.drop_eq_getElem_cons hl]
  simp [labs]

theorem labs_drop_all (n : Nat) (N V : Nat → Bs) (k : Nat) (h : n ≤ k) : (labs n N V).drop k = [] := by
  apply List.drop_eq_nil_of_le
  simpa [labs] using h

theorem cmpF_eq (n m : Nat) (N V N' V' : Nat → Bs) : ∀ d k, k + d = min n m → cmpF n m N V N' V' d k = cmpL ((labs n N V).drop k) ((labs m N' V').drop k)
  | 0, k, h => by
    have hk : k = min n m := by omega
    unfold cmpF
    by_cases h1 : n < m
    · have : k = n := by omega
      subst this
      rw [labs_drop_all k N V k (Nat.le_refl _), labs_drop m N' V' k h1]
      simp [cmpL, h1]
    · by_cases h2 : m < n
      · have : k = m := by omega
        subst this
        rw [labs_drop_all k N' V' k (Nat.le_refl _), labs_drop n N V k h2]
        simp [cmpL, h1, h2]
      · rw [labs_drop_all n N V k (by omega), labs_drop_all m N' V' k (by omega)]
        simp [cmpL, h1, h2]
  | d + 1, k, h => by
    unfold cmpF
    rw [labs_drop n N V k (by omega), labs_drop m N' V' k (by omega), cmpF_eq n m N V N' V' d (k + 1) (by omega)]
    simp only [cmpL]

theorem labs_append (n m : Nat) (N V N' V' : Nat → Bs) : labs (n + m) (fun i => if i < n then N i else N' (i - n)) (fun i => if i < n then V i else V' (i - n)) = labs n N V ++ labs m N' V' := by
  unfold labs
  rw [List.range_add, List.map_append, List.map_map]
  congr 1
  · apply List.map_congr_left
    intro i hi
    have := List.mem_range.1 hi
    simp [this]
  · apply List.map_congr_left
    intro i _
    have h : ¬ n + i < n := by omega
    simp [h]

end Go.Proofs.Qxb6632426a.Plain
