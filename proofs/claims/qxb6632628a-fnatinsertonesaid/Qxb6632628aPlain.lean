/-
  SEAT b6632628a: THE PLAIN PART: the innermost definition that spans a line. No Go in sight.
-/
namespace Go.Proofs.Qxb6632628a.Plain

/-- definition i spans line x -/
def sp (F L : Nat → Int) (x : Int) (i : Nat) : Bool := decide (F i ≤ x) && decide (x ≤ L i)

theorem sp_yes {F L : Nat → Int} {x : Int} {i : Nat} (h1 : F i ≤ x) (h2 : x ≤ L i) : sp F L x i = true := by simp [sp, h1, h2]
theorem sp_lo {F L : Nat → Int} {x : Int} {i : Nat} (h1 : ¬ F i ≤ x) : sp F L x i = false := by simp [sp]; intro h; omega
theorem sp_hi {F L : Nat → Int} {x : Int} {i : Nat} (h2 : ¬ x ≤ L i) : sp F L x i = false := by simp [sp]; intro _; omega

/-- b is beaten by k -/
def beat (F : Nat → Int) (o : Option Nat) (k : Nat) : Bool := match o with | none => true | some b => decide (F b < F k)

/-- the loop of At over the first k definitions -/
def best (F L : Nat → Int) (x : Int) : Nat → Option Nat
  | 0 => none
  | k + 1 => if sp F L x k && beat F (best F L x k) k then some k else best F L x k

theorem best_skip {F L : Nat → Int} {x : Int} {k : Nat} (h : sp F L x k = false) : best F L x (k + 1) = best F L x k := by simp [best, h]
theorem best_keep {F L : Nat → Int} {x : Int} {k : Nat} (h : beat F (best F L x k) k = false) : best F L x (k + 1) = best F L x k := by simp [best, h]
theorem best_take {F L : Nat → Int} {x : Int} {k : Nat} (h : sp F L x k = true) (h2 : beat F (best F L x k) k = true) : best F L x (k + 1) = some k := by simp [best, h, h2]

/-- b is the one: it spans x, none that spans starts later, none before it starts as late -/
structure IsBest (F L : Nat → Int) (x : Int) (n b : Nat) : Prop where
  lt : b < n
  spans : sp F L x b = true
  top : ∀ i, i < n → sp F L x i = true → F i ≤ F b
  first : ∀ i, i < b → sp F L x i = true → F i < F b

theorem best_none {F L : Nat → Int} {x : Int} : ∀ n, best F L x n = none → ∀ i, i < n → sp F L x i = false
  | 0, _, i, hi => by omega
  | n + 1, h, i, hi => by
    by_cases hs : sp F L x n = true
    · by_cases hb : beat F (best F L x n) n = true
      · rw [best_take hs hb] at h; cases h
      · rw [best_keep (by simpa using hb)] at h
        rw [h] at hb
        simp [beat] at hb
    · have hs' : sp F L x n = false := by simpa using hs
      rw [best_skip hs'] at h
      by_cases e : i = n
      · rw [e]; exact hs'
      · exact best_none n h i (by omega)

theorem best_some {F L : Nat → Int} {x : Int} : ∀ n b, best F L x n = some b → IsBest F L x n b
  | 0, b, h => by cases h
  | n + 1, b, h => by
    by_cases hs : sp F L x n = true
    · by_cases hb : beat F (best F L x n) n = true
      · rw [best_take hs hb] at h
        obtain rfl := Option.some.inj h
        cases ho : best F L x n with
        | none =>
          have hn := best_none n ho
          refine ⟨by omega, hs, fun i hi hsi => ?_, fun i hi hsi => ?_⟩
          · by_cases e : i = n
            · rw [e]; exact Int.le_refl _
            · rw [hn i (by omega)] at hsi
              cases hsi
          · rw [hn i hi] at hsi
            cases hsi
        | some c =>
          have hc := best_some n c ho
          rw [ho] at hb
          have hlt : F c < F n := by simpa [beat] using hb
          refine ⟨by omega, hs, fun i hi hsi => ?_, fun i hi hsi => ?_⟩
          · by_cases e : i = n
            · rw [e]; exact Int.le_refl _
            · have := hc.top i (by omega) hsi
              omega
          · have := hc.top i hi hsi
            omega
      · have hb' : beat F (best F L x n) n = false := by simpa using hb
        rw [best_keep hb'] at h
        have hc := best_some n b h
        rw [h] at hb'
        have hge : ¬ F b < F n := by simpa [beat] using hb'
        refine ⟨by have := hc.lt; omega, hc.spans, fun i hi hsi => ?_, hc.first⟩
        by_cases e : i = n
        · rw [e]; omega
        · exact hc.top i (by omega) hsi
    · have hs' : sp F L x n = false := by simpa using hs
      rw [best_skip hs'] at h
      have hc := best_some n b h
      refine ⟨by have := hc.lt; omega, hc.spans, fun i hi hsi => ?_, hc.first⟩
      by_cases e : i = n
      · rw [e, hs'] at hsi
        cases hsi
      · exact hc.top i (by omega) hsi

theorem isBest_unique {F L : Nat → Int} {x : Int} {n a b : Nat} (ha : IsBest F L x n a) (hb : IsBest F L x n b) : a = b := by
  by_cases h1 : a < b
  · have := hb.first a h1 ha.spans
    have := ha.top b hb.lt hb.spans
    omega
  · by_cases h2 : b < a
    · have := ha.first b h2 hb.spans
      have := hb.top a ha.lt ha.spans
      omega
    · omega

theorem best_of {F L : Nat → Int} {x : Int} {n b : Nat} (h : IsBest F L x n b) : best F L x n = some b := by
  cases ho : best F L x n with
  | none =>
    have := best_none n ho b h.lt
    rw [h.spans] at this
    cases this
  | some c => rw [isBest_unique (best_some n c ho) h]

/-! ### the law 'innermost, earliest' -/

/-- is there one that spans x among the first k? -/
def anyB (F L : Nat → Int) (x : Int) : Nat → Bool
  | 0 => false
  | k + 1 => anyB F L x k || sp F L x k

theorem anyB_none {F L : Nat → Int} {x : Int} : ∀ n, (∀ i, i < n → sp F L x i = false) → anyB F L x n = false
  | 0, _ => rfl
  | n + 1, h => by simp [anyB, anyB_none n (fun i hi => h i (by omega)), h n (by omega)]
theorem anyB_some {F L : Nat → Int} {x : Int} {i : Nat} (hi : sp F L x i = true) : ∀ n, i < n → anyB F L x n = true
  | 0, h => by omega
  | n + 1, h => by
    by_cases e : i = n
    · subst e; simp [anyB, hi]
    · simp [anyB, anyB_some hi n (by omega)]

/-- j does not speak against i -/
def good (F L : Nat → Int) (x : Int) (i j : Nat) : Prop := j = i ∨ sp F L x j = false ∨ (¬ F i < F j ∧ ¬ (j < i ∧ F j = F i))

theorem best_good {F L : Nat → Int} {x : Int} {n i : Nat} (hi : i < n) (hs : sp F L x i = true) (h : ∀ j, j < n → good F L x i j) : best F L x n = some i := by
  refine best_of ⟨hi, hs, fun j hj hsj => ?_, fun j hj hsj => ?_⟩
  · rcases h j hj with e | e | ⟨e, _⟩
    · rw [e]; exact Int.le_refl _
    · rw [e] at hsj; cases hsj
    · omega
  · rcases h j (by omega) with e | e | ⟨e1, e2⟩
    · omega
    · rw [e] at hsj; cases hsj
    · have : ¬ F j = F i := fun e => e2 ⟨hj, e⟩
      omega

theorem good_best {F L : Nat → Int} {x : Int} {n i j : Nat} (hj : j < n) (h : best F L x n = some i) : good F L x i j := by
  have hb := best_some n i h
  by_cases e : j = i
  · exact .inl e
  · by_cases hs : sp F L x j = true
    · refine .inr (.inr ⟨?_, ?_⟩)
      · have := hb.top j hj hs; omega
      · rintro ⟨h1, h2⟩
        have := hb.first j h1 hs
        omega
    · exact .inr (.inl (by simpa using hs))

/-- how many winners among the first k, where o is the winner -/
def wn (o : Option Nat) (k : Nat) : Int := match o with | none => 0 | some b => if b < k then 1 else 0
theorem wn_hit {b : Nat} : wn (some b) (b + 1) = wn (some b) b + 1 := by simp [wn]
theorem wn_miss {o : Option Nat} {k : Nat} (h : o ≠ some k) : wn o (k + 1) = wn o k := by
  cases o with
  | none => rfl
  | some b =>
    have : b ≠ k := fun e => h (by rw [e])
    simp only [wn]
    by_cases h1 : b < k
    · rw [if_pos h1, if_pos (by omega)]
    · rw [if_neg h1, if_neg (by omega)]
theorem wn_bd (o : Option Nat) (k : Nat) : 0 ≤ wn o k ∧ wn o k ≤ 1 := by
  cases o with
  | none => simp [wn]
  | some b => simp only [wn]; split <;> omega

/-- the name of the winner among the first k -/
def ws (S : Nat → ByteArray) (o : Option Nat) (k : Nat) : ByteArray := match o with | none => ByteArray.empty | some b => if b < k then S b else ByteArray.empty
theorem ws_hit {S : Nat → ByteArray} {b : Nat} : ws S (some b) (b + 1) = S b := by simp [ws]
theorem ws_miss {S : Nat → ByteArray} {o : Option Nat} {k : Nat} (h : o ≠ some k) : ws S o (k + 1) = ws S o k := by
  cases o with
  | none => rfl
  | some b =>
    have : b ≠ k := fun e => h (by rw [e])
    simp only [ws]
    by_cases h1 : b < k
    · rw [if_pos h1, if_pos (by omega)]
    · rw [if_neg h1, if_neg (by omega)]

/-- what At answers -/
def nm (S : Nat → ByteArray) (o : Option Nat) : ByteArray := match o with | none => ByteArray.empty | some b => S b

theorem ws_all {S : Nat → ByteArray} {F L : Nat → Int} {x : Int} {n : Nat} : ws S (best F L x n) n = nm S (best F L x n) := by
  cases ho : best F L x n with
  | none => rfl
  | some b => have := (best_some n b ho).lt; simp [ws, nm, this]

/-! ### the law on one insertion -/

/-- f with v put in at p -/
def ins {α : Type} (p : Nat) (f : Nat → α) (v : α) (i : Nat) : α := if i < p then f i else if i = p then v else f (i - 1)
theorem ins_lo {α : Type} {p : Nat} {f : Nat → α} {v : α} {i : Nat} (h : i < p) : ins p f v i = f i := if_pos h
theorem ins_at {α : Type} {p : Nat} {f : Nat → α} {v : α} : ins p f v p = v := by simp [ins]
theorem ins_hi {α : Type} {p : Nat} {f : Nat → α} {v : α} {i : Nat} (h : p ≤ i) : ins p f v (i + 1) = f i := by
  unfold ins
  rw [if_neg (by omega), if_neg (by omega), Nat.add_sub_cancel]

/-- where old index b has come to -/
def sh (p b : Nat) : Nat := if b < p then b else b + 1
theorem ins_sh {α : Type} {p : Nat} {f : Nat → α} {v : α} {b : Nat} : ins p f v (sh p b) = f b := by
  unfold sh
  split
  · rename_i h; exact ins_lo h
  · exact ins_hi (by omega)
theorem sp_sh {F L : Nat → Int} {x u v : Int} {p b : Nat} : sp (ins p F u) (ins p L v) x (sh p b) = sp F L x b := by simp [sp, ins_sh]
theorem sp_at {F L : Nat → Int} {x u v : Int} {p : Nat} : sp (ins p F u) (ins p L v) x p = (decide (u ≤ x) && decide (x ≤ v)) := by simp [sp, ins_at]
theorem sh_cases (p i : Nat) (h : i ≠ p) : ∃ b, i = sh p b := by
  by_cases h1 : i < p
  · exact ⟨i, by simp [sh, h1]⟩
  · exact ⟨i - 1, by unfold sh; rw [if_neg (by omega)]; omega⟩
theorem sh_lt {p b n : Nat} (hp : p ≤ n) : sh p b < n + 1 ↔ b < n := by unfold sh; split <;> omega
theorem sh_mono {p a b : Nat} : sh p a < sh p b ↔ a < b := by unfold sh; split <;> split <;> omega
theorem sh_lt_p {p b : Nat} : sh p b < p ↔ b < p := by unfold sh; split <;> omega
theorem p_lt_sh {p b : Nat} : p < sh p b ↔ p ≤ b := by unfold sh; split <;> omega

/-- the new one loses (it does not span, or it starts earlier, or as late but behind): the old winner stays -/
theorem ins_old {F L : Nat → Int} {x u v : Int} {p n b : Nat} (hp : p ≤ n) (h : IsBest F L x n b)
    (hl : (decide (u ≤ x) && decide (x ≤ v)) = false ∨ u < F b ∨ (u = F b ∧ b < p)) : IsBest (ins p F u) (ins p L v) x (n + 1) (sh p b) := by
  refine ⟨(sh_lt hp).2 h.lt, by rw [sp_sh]; exact h.spans, fun i hi hsi => ?_, fun i hi hsi => ?_⟩
  · rw [ins_sh]
    by_cases e : i = p
    · subst e
      rw [sp_at] at hsi
      rw [ins_at]
      rcases hl with hl | hl | hl
      · rw [hl] at hsi; cases hsi
      · omega
      · omega
    · obtain ⟨c, rfl⟩ := sh_cases p i e
      rw [sp_sh] at hsi
      rw [ins_sh]
      exact h.top c ((sh_lt hp).1 hi) hsi
  · rw [ins_sh]
    by_cases e : i = p
    · subst e
      rw [sp_at] at hsi
      rw [ins_at]
      have hb := p_lt_sh.1 hi
      rcases hl with hl | hl | hl
      · rw [hl] at hsi; cases hsi
      · omega
      · omega
    · obtain ⟨c, rfl⟩ := sh_cases p i e
      rw [sp_sh] at hsi
      rw [ins_sh]
      exact h.first c (sh_mono.1 hi) hsi

/-- the new one does not span and none did -/
theorem ins_none {F L : Nat → Int} {x u v : Int} {p n : Nat} (hp : p ≤ n) (h : best F L x n = none) (hl : (decide (u ≤ x) && decide (x ≤ v)) = false) : best (ins p F u) (ins p L v) x (n + 1) = none := by
  cases ho : best (ins p F u) (ins p L v) x (n + 1) with
  | none => rfl
  | some b =>
    have hb := best_some _ _ ho
    have hs := hb.spans
    by_cases e : b = p
    · subst e
      rw [sp_at, hl] at hs
      cases hs
    · obtain ⟨c, rfl⟩ := sh_cases p b e
      rw [sp_sh, best_none n h c ((sh_lt hp).1 hb.lt)] at hs
      cases hs

/-- the new one wins -/
theorem ins_new {F L : Nat → Int} {x u v : Int} {p n : Nat} (hp : p ≤ n) (hs : (decide (u ≤ x) && decide (x ≤ v)) = true)
    (hw : ∀ i, i < n → sp F L x i = true → F i ≤ u ∧ (i < p → F i < u)) : IsBest (ins p F u) (ins p L v) x (n + 1) p := by
  refine ⟨by omega, by rw [sp_at]; exact hs, fun i hi hsi => ?_, fun i hi hsi => ?_⟩
  · rw [ins_at]
    by_cases e : i = p
    · subst e
      rw [ins_at]
      exact Int.le_refl _
    · obtain ⟨c, rfl⟩ := sh_cases p i e
      rw [sp_sh] at hsi
      rw [ins_sh]
      exact (hw c ((sh_lt hp).1 hi) hsi).1
  · rw [ins_at]
    obtain ⟨c, rfl⟩ := sh_cases p i (by omega)
    rw [sp_sh] at hsi
    rw [ins_sh]
    have hc := sh_lt_p.1 hi
    exact (hw c (by omega) hsi).2 hc

/-- the greatest First among those of the first k that span -/
def mx (F : Nat → Int) (o : Option Nat) : Int := match o with | none => 0 | some b => F b

end Go.Proofs.Qxb6632628a.Plain
