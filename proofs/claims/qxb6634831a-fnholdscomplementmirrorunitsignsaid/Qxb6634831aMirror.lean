/-
  SEAT b6634831a: FnHoldsComplementMirrorUnitSign: the walk out of contracts.
-/
import Derived.Test.Qxb6634831aHolds
namespace Go.Proofs.Qxb6634831a
open Go.RowKit

/-- what Operator.Holds answers -/
def H (o : ByteArray) (s : Int) : Bool :=
  if o.data.toList == [62, 61] then decide (0 ≤ s) else if o.data.toList == [62] then decide (0 < s) else if o.data.toList == [60, 61] then decide (s ≤ 0)
  else if o.data.toList == [60] then decide (s < 0) else if o.data.toList == [61] then s == 0 else false

theorem H_other {o : ByteArray} (h : Other o) (s : Int) : H o s = false := by
  have h1 := h.ge
  have h2 := h.gt
  have h3 := h.le
  have h4 := h.lt
  have h5 := h.eq
  rw [ByteArray.toList_eq] at h1 h2 h3 h4 h5
  simp [H, h1, h2, h3, h4, h5]

set_option maxHeartbeats 400000 in
theorem holds_any (o : ByteArray) (s : Int) (w : World) : Calls Try.prog 6 #[.string o, .int .i64 s] w fun e w' => e = .returned (.bool (H o s)) ∧ w' = w := by
  rcases five o with rfl | rfl | rfl | rfl | rfl | h
  · go_enter Try.func6, Try.ntmps6
    go_wp2
    go_ret
    exact ⟨rfl, rfl⟩
  · go_enter Try.func6, Try.ntmps6
    go_wp2
    go_ret
    exact ⟨rfl, rfl⟩
  · go_enter Try.func6, Try.ntmps6
    go_wp2
    go_ret
    exact ⟨rfl, rfl⟩
  · go_enter Try.func6, Try.ntmps6
    go_wp2
    go_ret
    exact ⟨rfl, rfl⟩
  · go_enter Try.func6, Try.ntmps6
    go_wp2
    go_ret
    exact ⟨rfl, rfl⟩
  · rw [H_other h]
    exact holds_other o s w h

theorem holds_is (r : Bool) (o : ByteArray) (s : Int) (w : World) (h : Hid (H o s = r)) : Calls Try.prog 6 #[.string o, .int .i64 s] w fun e w' => e = .returned (.bool r) ∧ w' = w := by
  rw [← h.out]
  exact holds_any o s w

/-- the unit sign -/
def un (s : Int) : Int := if 0 < s then 1 else if s < 0 then -1 else 0
theorem un_bd (s : Int) : -1 ≤ un s ∧ un s ≤ 1 := by unfold un; split <;> (try split) <;> omega
theorem un_neg (s : Int) (u : Int) (h : un s = u) : (0 < u ↔ 0 < s) ∧ (u < 0 ↔ s < 0) := by
  subst h
  unfold un
  by_cases h1 : 0 < s
  · rw [if_pos h1]; omega
  · rw [if_neg h1]
    by_cases h2 : s < 0
    · rw [if_pos h2]; omega
    · rw [if_neg h2]; omega

theorem unit_any (s : Int) (w : World) : Calls Try.prog 7 #[.int .i64 s] w fun e w' => e = .returned (.int .i64 (un s)) ∧ w' = w := by
  by_cases h1 : 0 < s
  · have e : un s = 1 := if_pos h1
    rw [e]
    clear e
    go_enter Try.func7, Try.ntmps7
    go_wp2
    go_ret
    exact ⟨rfl, rfl⟩
  · by_cases h2 : s < 0
    · have e : un s = -1 := by unfold un; rw [if_neg h1, if_pos h2]
      rw [e]
      clear e
      go_enter Try.func7, Try.ntmps7
      go_wp2
      go_ret
      exact ⟨rfl, rfl⟩
    · have e : un s = 0 := by unfold un; rw [if_neg h1, if_neg h2]
      rw [e]
      clear e
      go_enter Try.func7, Try.ntmps7
      go_wp2
      go_ret
      exact ⟨rfl, rfl⟩

theorem swap_lt (w : World) : Calls Try.prog 13 #[.int .u8 60] w fun e w' => e = .returned (.int .u8 62) ∧ w' = w := by
  go_enter Try.func13, Try.ntmps13
  go_wp2
  go_ret
  exact ⟨rfl, rfl⟩
theorem swap_gt (w : World) : Calls Try.prog 13 #[.int .u8 62] w fun e w' => e = .returned (.int .u8 60) ∧ w' = w := by
  go_enter Try.func13, Try.ntmps13
  go_wp2
  go_ret
  exact ⟨rfl, rfl⟩
theorem swap_eq (w : World) : Calls Try.prog 13 #[.int .u8 61] w fun e w' => e = .returned (.int .u8 61) ∧ w' = w := by
  go_enter Try.func13, Try.ntmps13
  go_wp2
  go_ret
  exact ⟨rfl, rfl⟩

theorem sym_lt (w : World) : Calls Try.prog 12 #[.int .u8 60] w fun e w' => e = .returned (.string ⟨#[60]⟩) ∧ w' = w := by
  go_enter Try.func12, Try.ntmps12
  go_wp2
  go_ret
  exact ⟨rfl, rfl⟩
theorem sym_gt (w : World) : Calls Try.prog 12 #[.int .u8 62] w fun e w' => e = .returned (.string ⟨#[62]⟩) ∧ w' = w := by
  go_enter Try.func12, Try.ntmps12
  go_wp2
  go_ret
  exact ⟨rfl, rfl⟩
theorem sym_eq (w : World) : Calls Try.prog 12 #[.int .u8 61] w fun e w' => e = .returned (.string ⟨#[61]⟩) ∧ w' = w := by
  go_enter Try.func12, Try.ntmps12
  go_wp2
  go_ret
  exact ⟨rfl, rfl⟩

set_option maxHeartbeats 400000 in
theorem mir_ge (w : World) : Calls Try.prog 10 #[.string ⟨#[62, 61]⟩] w fun e w' => e = .returned (.string ⟨#[60, 61]⟩) ∧ w' = w := by
  go_enter Try.func10, Try.ntmps10
  go_wp2_with fail
  refine (swap_gt _).mono ?_
  rintro e w' ⟨rfl, rfl⟩
  go_wp2_with fail
  refine (sym_lt _).mono ?_
  rintro e w' ⟨rfl, rfl⟩
  go_wp2
  go_ret
  exact ⟨rfl, rfl⟩
set_option maxHeartbeats 400000 in
theorem mir_gt (w : World) : Calls Try.prog 10 #[.string ⟨#[62]⟩] w fun e w' => e = .returned (.string ⟨#[60]⟩) ∧ w' = w := by
  go_enter Try.func10, Try.ntmps10
  go_wp2_with fail
  refine (swap_gt _).mono ?_
  rintro e w' ⟨rfl, rfl⟩
  go_wp2_with fail
  refine (sym_lt _).mono ?_
  rintro e w' ⟨rfl, rfl⟩
  go_wp2
  go_ret
  exact ⟨rfl, rfl⟩
set_option maxHeartbeats 400000 in
theorem mir_le (w : World) : Calls Try.prog 10 #[.string ⟨#[60, 61]⟩] w fun e w' => e = .returned (.string ⟨#[62, 61]⟩) ∧ w' = w := by
  go_enter Try.func10, Try.ntmps10
  go_wp2_with fail
  refine (swap_lt _).mono ?_
  rintro e w' ⟨rfl, rfl⟩
  go_wp2_with fail
  refine (sym_gt _).mono ?_
  rintro e w' ⟨rfl, rfl⟩
  go_wp2
  go_ret
  exact ⟨rfl, rfl⟩
set_option maxHeartbeats 400000 in
theorem mir_lt (w : World) : Calls Try.prog 10 #[.string ⟨#[60]⟩] w fun e w' => e = .returned (.string ⟨#[62]⟩) ∧ w' = w := by
  go_enter Try.func10, Try.ntmps10
  go_wp2_with fail
  refine (swap_lt _).mono ?_
  rintro e w' ⟨rfl, rfl⟩
  go_wp2_with fail
  refine (sym_gt _).mono ?_
  rintro e w' ⟨rfl, rfl⟩
  go_wp2
  go_ret
  exact ⟨rfl, rfl⟩
set_option maxHeartbeats 400000 in
theorem mir_eq (w : World) : Calls Try.prog 10 #[.string ⟨#[61]⟩] w fun e w' => e = .returned (.string ⟨#[61]⟩) ∧ w' = w := by
  go_enter Try.func10, Try.ntmps10
  go_wp2_with fail
  refine (swap_eq _).mono ?_
  rintro e w' ⟨rfl, rfl⟩
  go_wp2_with fail
  refine (sym_eq _).mono ?_
  rintro e w' ⟨rfl, rfl⟩
  go_wp2
  go_ret
  exact ⟨rfl, rfl⟩
set_option maxHeartbeats 400000 in
theorem com_ge (w : World) : Calls Try.prog 11 #[.string ⟨#[62, 61]⟩] w fun e w' => e = .returned (.string ⟨#[60]⟩) ∧ w' = w := by
  go_enter Try.func11, Try.ntmps11
  go_wp2_with fail
  refine (swap_gt _).mono ?_
  rintro e w' ⟨rfl, rfl⟩
  go_wp2_with fail
  refine (sym_lt _).mono ?_
  rintro e w' ⟨rfl, rfl⟩
  go_wp2
  go_ret
  exact ⟨rfl, rfl⟩
set_option maxHeartbeats 400000 in
theorem com_gt (w : World) : Calls Try.prog 11 #[.string ⟨#[62]⟩] w fun e w' => e = .returned (.string ⟨#[60, 61]⟩) ∧ w' = w := by
  go_enter Try.func11, Try.ntmps11
  go_wp2_with fail
  refine (swap_gt _).mono ?_
  rintro e w' ⟨rfl, rfl⟩
  go_wp2_with fail
  refine (sym_lt _).mono ?_
  rintro e w' ⟨rfl, rfl⟩
  go_wp2
  go_ret
  exact ⟨rfl, rfl⟩
set_option maxHeartbeats 400000 in
theorem com_le (w : World) : Calls Try.prog 11 #[.string ⟨#[60, 61]⟩] w fun e w' => e = .returned (.string ⟨#[62]⟩) ∧ w' = w := by
  go_enter Try.func11, Try.ntmps11
  go_wp2_with fail
  refine (swap_lt _).mono ?_
  rintro e w' ⟨rfl, rfl⟩
  go_wp2_with fail
  refine (sym_gt _).mono ?_
  rintro e w' ⟨rfl, rfl⟩
  go_wp2
  go_ret
  exact ⟨rfl, rfl⟩
set_option maxHeartbeats 400000 in
theorem com_lt (w : World) : Calls Try.prog 11 #[.string ⟨#[60]⟩] w fun e w' => e = .returned (.string ⟨#[62, 61]⟩) ∧ w' = w := by
  go_enter Try.func11, Try.ntmps11
  go_wp2_with fail
  refine (swap_lt _).mono ?_
  rintro e w' ⟨rfl, rfl⟩
  go_wp2_with fail
  refine (sym_gt _).mono ?_
  rintro e w' ⟨rfl, rfl⟩
  go_wp2
  go_ret
  exact ⟨rfl, rfl⟩
set_option maxHeartbeats 400000 in
theorem isOp_ge (w : World) : Calls Try.prog 8 #[.string ⟨#[62, 61]⟩] w fun e w' => e = .returned (.bool true) ∧ w' = w := by
  go_enter Try.func8, Try.ntmps8
  go_wp2
  go_ret
  exact ⟨rfl, rfl⟩
set_option maxHeartbeats 400000 in
theorem isOp_gt (w : World) : Calls Try.prog 8 #[.string ⟨#[62]⟩] w fun e w' => e = .returned (.bool true) ∧ w' = w := by
  go_enter Try.func8, Try.ntmps8
  go_wp2
  go_ret
  exact ⟨rfl, rfl⟩
set_option maxHeartbeats 400000 in
theorem isOp_le (w : World) : Calls Try.prog 8 #[.string ⟨#[60, 61]⟩] w fun e w' => e = .returned (.bool true) ∧ w' = w := by
  go_enter Try.func8, Try.ntmps8
  go_wp2
  go_ret
  exact ⟨rfl, rfl⟩
set_option maxHeartbeats 400000 in
theorem isOp_lt (w : World) : Calls Try.prog 8 #[.string ⟨#[60]⟩] w fun e w' => e = .returned (.bool true) ∧ w' = w := by
  go_enter Try.func8, Try.ntmps8
  go_wp2
  go_ret
  exact ⟨rfl, rfl⟩
set_option maxHeartbeats 400000 in
theorem isOp_eq (w : World) : Calls Try.prog 8 #[.string ⟨#[61]⟩] w fun e w' => e = .returned (.bool true) ∧ w' = w := by
  go_enter Try.func8, Try.ntmps8
  go_wp2
  go_ret
  exact ⟨rfl, rfl⟩

set_option maxHeartbeats 1000000 in
theorem bytes9_any (o : ByteArray) (s : Int) (w : World) (h : o.size ≤ 65536) : Calls Try.prog 9 #[.string o, .int .i64 s] w fun e w' => e = .returned (.bool true) ∧ w' = w := by
  go_enter Try.func9, Try.ntmps9
  go_wp2
  go_ret
  exact ⟨rfl, rfl⟩

set_option maxHeartbeats 1000000 in
theorem mirror_other (o : ByteArray) (s : Int) (w : World) (h : Other o) : Calls Try.prog 4 #[.string o, .int .i64 s] w fun e w' => e = .returned (.bool true) ∧ w' = w := by
  by_cases d0 : 1048576 < (o.size : Int)
  · go_enter Try.func4, Try.ntmps4
    go_wp2
    go_ret
    exact ⟨rfl, rfl⟩
  by_cases d1 : 65536 < (o.size : Int)
  · go_enter Try.func4, Try.ntmps4
    go_wp2
    go_ret
    exact ⟨rfl, rfl⟩
  obtain ⟨u, hu⟩ : ∃ u, un s = u := ⟨_, rfl⟩
  have hb := un_bd s
  rw [hu] at hb
  have hn := un_neg s u hu
  have HU : Hid (un s = u) := hu
  obtain ⟨A, hA⟩ : ∃ A, decide (0 < s) = A := ⟨_, rfl⟩
  obtain ⟨B, hB⟩ : ∃ B, decide (s < 0) = B := ⟨_, rfl⟩
  have H1 : Hid (H o s = false) := H_other h s
  have H2 : Hid (H o u = false) := H_other h u
  have H3 : Hid (H ⟨#[62]⟩ s = A) := hA
  have H4 : Hid (H ⟨#[60]⟩ s = B) := hB
  have H5 : Hid (H ⟨#[62]⟩ (-u) = B) := by
    show decide (0 < -u) = B
    rw [← hB]
    exact decide_eq_decide.2 (by omega)
  have hsz : o.size ≤ 65536 := by omega
  clear hu hn hB d0 d1
  go_enter Try.func4, Try.ntmps4
  go_wp2_with fail
  refine (bytes9_any _ _ _ hsz).mono ?_
  rintro e w' ⟨rfl, rfl⟩
  go_wp2_with fail
  refine (holds_is false _ _ _ H1).mono ?_
  rintro e w' ⟨rfl, rfl⟩
  go_wp2_with fail
  refine (unit_any _ _).mono ?_
  rw [HU.out]
  rintro e w' ⟨rfl, rfl⟩
  go_wp2_with fail
  refine (holds_is false _ _ _ H2).mono ?_
  rintro e w' ⟨rfl, rfl⟩
  go_wp2_with fail
  refine (holds_is A _ _ _ H3).mono ?_
  rintro e w' ⟨rfl, rfl⟩
  go_wp2_with fail
  refine (holds_is B _ _ _ H4).mono ?_
  rintro e w' ⟨rfl, rfl⟩
  go_wp2_with fail
  refine (holds_is B _ _ _ H5).mono ?_
  rintro e w' ⟨rfl, rfl⟩
  go_wp2_with fail
  refine (isOp_other _ _ h).mono ?_
  rintro e w' ⟨rfl, rfl⟩
  go_wp2
  go_ret
  exact ⟨rfl, rfl⟩

set_option maxHeartbeats 1000000 in
theorem mirror_ge (s : Int) (w : World) : Calls Try.prog 4 #[.string ⟨#[62, 61]⟩, .int .i64 s] w fun e w' => e = .returned (.bool true) ∧ w' = w := by
  obtain ⟨u, hu⟩ : ∃ u, un s = u := ⟨_, rfl⟩
  have hb := un_bd s
  rw [hu] at hb
  have hn := un_neg s u hu
  have HU : Hid (un s = u) := hu
  obtain ⟨A, hA⟩ : ∃ A, decide (0 < s) = A := ⟨_, rfl⟩
  obtain ⟨B, hB⟩ : ∃ B, decide (s < 0) = B := ⟨_, rfl⟩
  obtain ⟨R, hR⟩ : ∃ R, decide (0 ≤ s) = R := ⟨_, rfl⟩
  have H1 : Hid (H ⟨#[62, 61]⟩ s = R) := hR
  have H2 : Hid (H ⟨#[62, 61]⟩ u = R) := by
    show decide (0 ≤ u) = R
    rw [← hR]
    exact decide_eq_decide.2 (by omega)
  have H3 : Hid (H ⟨#[62]⟩ s = A) := hA
  have H4 : Hid (H ⟨#[60]⟩ s = B) := hB
  have H5 : Hid (H ⟨#[62]⟩ (-u) = B) := by
    show decide (0 < -u) = B
    rw [← hB]
    exact decide_eq_decide.2 (by omega)
  have H6 : Hid (H ⟨#[60, 61]⟩ (-u) = R) := by
    show decide (-u ≤ 0) = R
    rw [← hR]
    exact decide_eq_decide.2 (by omega)
  have H7 : Hid (H ⟨#[60]⟩ s = !R) := by
    show decide (s < 0) = !R
    rw [← hR, ← decide_not]
    exact decide_eq_decide.2 (by omega)
  have hsz : (⟨#[62, 61]⟩ : ByteArray).size ≤ 65536 := by decide
  clear hu hn hB hR
  cases R
  all_goals
    go_enter Try.func4, Try.ntmps4
    go_wp2_with fail
    refine (bytes9_any _ _ _ hsz).mono ?_
    rintro e w' ⟨rfl, rfl⟩
    go_wp2_with fail
    refine (holds_is _ _ _ _ H1).mono ?_
    rintro e w' ⟨rfl, rfl⟩
    go_wp2_with fail
    refine (unit_any _ _).mono ?_
    rw [HU.out]
    rintro e w' ⟨rfl, rfl⟩
    go_wp2_with fail
    refine (holds_is _ _ _ _ H2).mono ?_
    rintro e w' ⟨rfl, rfl⟩
    go_wp2_with fail
    refine (holds_is _ _ _ _ H3).mono ?_
    rintro e w' ⟨rfl, rfl⟩
    go_wp2_with fail
    refine (holds_is _ _ _ _ H4).mono ?_
    rintro e w' ⟨rfl, rfl⟩
    go_wp2_with fail
    refine (holds_is _ _ _ _ H5).mono ?_
    rintro e w' ⟨rfl, rfl⟩
    go_wp2_with fail
    refine (isOp_ge _).mono ?_
    rintro e w' ⟨rfl, rfl⟩
    go_wp2_with fail
    refine (mir_ge _).mono ?_
    rintro e w' ⟨rfl, rfl⟩
    go_wp2_with fail
    refine (holds_is _ _ _ _ H6).mono ?_
    rintro e w' ⟨rfl, rfl⟩
    go_wp2_with fail
    refine (com_ge _).mono ?_
    rintro e w' ⟨rfl, rfl⟩
    go_wp2_with fail
    refine (holds_is _ _ _ _ H7).mono ?_
    rintro e w' ⟨rfl, rfl⟩
    go_wp2
    go_ret
    exact ⟨rfl, rfl⟩

set_option maxHeartbeats 1000000 in
theorem mirror_gt (s : Int) (w : World) : Calls Try.prog 4 #[.string ⟨#[62]⟩, .int .i64 s] w fun e w' => e = .returned (.bool true) ∧ w' = w := by
  obtain ⟨u, hu⟩ : ∃ u, un s = u := ⟨_, rfl⟩
  have hb := un_bd s
  rw [hu] at hb
  have hn := un_neg s u hu
  have HU : Hid (un s = u) := hu
  obtain ⟨A, hA⟩ : ∃ A, decide (0 < s) = A := ⟨_, rfl⟩
  obtain ⟨B, hB⟩ : ∃ B, decide (s < 0) = B := ⟨_, rfl⟩
  obtain ⟨R, hR⟩ : ∃ R, decide (0 < s) = R := ⟨_, rfl⟩
  have H1 : Hid (H ⟨#[62]⟩ s = R) := hR
  have H2 : Hid (H ⟨#[62]⟩ u = R) := by
    show decide (0 < u) = R
    rw [← hR]
    exact decide_eq_decide.2 (by omega)
  have H3 : Hid (H ⟨#[62]⟩ s = A) := hA
  have H4 : Hid (H ⟨#[60]⟩ s = B) := hB
  have H5 : Hid (H ⟨#[62]⟩ (-u) = B) := by
    show decide (0 < -u) = B
    rw [← hB]
    exact decide_eq_decide.2 (by omega)
  have H6 : Hid (H ⟨#[60]⟩ (-u) = R) := by
    show decide (-u < 0) = R
    rw [← hR]
    exact decide_eq_decide.2 (by omega)
  have H7 : Hid (H ⟨#[60, 61]⟩ s = !R) := by
    show decide (s ≤ 0) = !R
    rw [← hR, ← decide_not]
    exact decide_eq_decide.2 (by omega)
  have hsz : (⟨#[62]⟩ : ByteArray).size ≤ 65536 := by decide
  clear hu hn hB hR
  cases R
  all_goals
    go_enter Try.func4, Try.ntmps4
    go_wp2_with fail
    refine (bytes9_any _ _ _ hsz).mono ?_
    rintro e w' ⟨rfl, rfl⟩
    go_wp2_with fail
    refine (holds_is _ _ _ _ H1).mono ?_
    rintro e w' ⟨rfl, rfl⟩
    go_wp2_with fail
    refine (unit_any _ _).mono ?_
    rw [HU.out]
    rintro e w' ⟨rfl, rfl⟩
    go_wp2_with fail
    refine (holds_is _ _ _ _ H2).mono ?_
    rintro e w' ⟨rfl, rfl⟩
    go_wp2_with fail
    refine (holds_is _ _ _ _ H3).mono ?_
    rintro e w' ⟨rfl, rfl⟩
    go_wp2_with fail
    refine (holds_is _ _ _ _ H4).mono ?_
    rintro e w' ⟨rfl, rfl⟩
    go_wp2_with fail
    refine (holds_is _ _ _ _ H5).mono ?_
    rintro e w' ⟨rfl, rfl⟩
    go_wp2_with fail
    refine (isOp_gt _).mono ?_
    rintro e w' ⟨rfl, rfl⟩
    go_wp2_with fail
    refine (mir_gt _).mono ?_
    rintro e w' ⟨rfl, rfl⟩
    go_wp2_with fail
    refine (holds_is _ _ _ _ H6).mono ?_
    rintro e w' ⟨rfl, rfl⟩
    go_wp2_with fail
    refine (com_gt _).mono ?_
    rintro e w' ⟨rfl, rfl⟩
    go_wp2_with fail
    refine (holds_is _ _ _ _ H7).mono ?_
    rintro e w' ⟨rfl, rfl⟩
    go_wp2
    go_ret
    exact ⟨rfl, rfl⟩

set_option maxHeartbeats 1000000 in
theorem mirror_le (s : Int) (w : World) : Calls Try.prog 4 #[.string ⟨#[60, 61]⟩, .int .i64 s] w fun e w' => e = .returned (.bool true) ∧ w' = w := by
  obtain ⟨u, hu⟩ : ∃ u, un s = u := ⟨_, rfl⟩
  have hb := un_bd s
  rw [hu] at hb
  have hn := un_neg s u hu
  have HU : Hid (un s = u) := hu
  obtain ⟨A, hA⟩ : ∃ A, decide (0 < s) = A := ⟨_, rfl⟩
  obtain ⟨B, hB⟩ : ∃ B, decide (s < 0) = B := ⟨_, rfl⟩
  obtain ⟨R, hR⟩ : ∃ R, decide (s ≤ 0) = R := ⟨_, rfl⟩
  have H1 : Hid (H ⟨#[60, 61]⟩ s = R) := hR
  have H2 : Hid (H ⟨#[60, 61]⟩ u = R) := by
    show decide (u ≤ 0) = R
    rw [← hR]
    exact decide_eq_decide.2 (by omega)
  have H3 : Hid (H ⟨#[62]⟩ s = A) := hA
  have H4 : Hid (H ⟨#[60]⟩ s = B) := hB
  have H5 : Hid (H ⟨#[62]⟩ (-u) = B) := by
    show decide (0 < -u) = B
    rw [← hB]
    exact decide_eq_decide.2 (by omega)
  have H6 : Hid (H ⟨#[62, 61]⟩ (-u) = R) := by
    show decide (0 ≤ -u) = R
    rw [← hR]
    exact decide_eq_decide.2 (by omega)
  have H7 : Hid (H ⟨#[62]⟩ s = !R) := by
    show decide (0 < s) = !R
    rw [← hR, ← decide_not]
    exact decide_eq_decide.2 (by omega)
  have hsz : (⟨#[60, 61]⟩ : ByteArray).size ≤ 65536 := by decide
  clear hu hn hB hR
  cases R
  all_goals
    go_enter Try.func4, Try.ntmps4
    go_wp2_with fail
    refine (bytes9_any _ _ _ hsz).mono ?_
    rintro e w' ⟨rfl, rfl⟩
    go_wp2_with fail
    refine (holds_is _ _ _ _ H1).mono ?_
    rintro e w' ⟨rfl, rfl⟩
    go_wp2_with fail
    refine (unit_any _ _).mono ?_
    rw [HU.out]
    rintro e w' ⟨rfl, rfl⟩
    go_wp2_with fail
    refine (holds_is _ _ _ _ H2).mono ?_
    rintro e w' ⟨rfl, rfl⟩
    go_wp2_with fail
    refine (holds_is _ _ _ _ H3).mono ?_
    rintro e w' ⟨rfl, rfl⟩
    go_wp2_with fail
    refine (holds_is _ _ _ _ H4).mono ?_
    rintro e w' ⟨rfl, rfl⟩
    go_wp2_with fail
    refine (holds_is _ _ _ _ H5).mono ?_
    rintro e w' ⟨rfl, rfl⟩
    go_wp2_with fail
    refine (isOp_le _).mono ?_
    rintro e w' ⟨rfl, rfl⟩
    go_wp2_with fail
    refine (mir_le _).mono ?_
    rintro e w' ⟨rfl, rfl⟩
    go_wp2_with fail
    refine (holds_is _ _ _ _ H6).mono ?_
    rintro e w' ⟨rfl, rfl⟩
    go_wp2_with fail
    refine (com_le _).mono ?_
    rintro e w' ⟨rfl, rfl⟩
    go_wp2_with fail
    refine (holds_is _ _ _ _ H7).mono ?_
    rintro e w' ⟨rfl, rfl⟩
    go_wp2
    go_ret
    exact ⟨rfl, rfl⟩

set_option maxHeartbeats 1000000 in
theorem mirror_lt (s : Int) (w : World) : Calls Try.prog 4 #[.string ⟨#[60]⟩, .int .i64 s] w fun e w' => e = .returned (.bool true) ∧ w' = w := by
  obtain ⟨u, hu⟩ : ∃ u, un s = u := ⟨_, rfl⟩
  have hb := un_bd s
  rw [hu] at hb
  have hn := un_neg s u hu
  have HU : Hid (un s = u) := hu
  obtain ⟨A, hA⟩ : ∃ A, decide (0 < s) = A := ⟨_, rfl⟩
  obtain ⟨B, hB⟩ : ∃ B, decide (s < 0) = B := ⟨_, rfl⟩
  obtain ⟨R, hR⟩ : ∃ R, decide (s < 0) = R := ⟨_, rfl⟩
  have H1 : Hid (H ⟨#[60]⟩ s = R) := hR
  have H2 : Hid (H ⟨#[60]⟩ u = R) := by
    show decide (u < 0) = R
    rw [← hR]
    exact decide_eq_decide.2 (by omega)
  have H3 : Hid (H ⟨#[62]⟩ s = A) := hA
  have H4 : Hid (H ⟨#[60]⟩ s = B) := hB
  have H5 : Hid (H ⟨#[62]⟩ (-u) = B) := by
    show decide (0 < -u) = B
    rw [← hB]
    exact decide_eq_decide.2 (by omega)
  have H6 : Hid (H ⟨#[62]⟩ (-u) = R) := by
    show decide (0 < -u) = R
    rw [← hR]
    exact decide_eq_decide.2 (by omega)
  have H7 : Hid (H ⟨#[62, 61]⟩ s = !R) := by
    show decide (0 ≤ s) = !R
    rw [← hR, ← decide_not]
    exact decide_eq_decide.2 (by omega)
  have hsz : (⟨#[60]⟩ : ByteArray).size ≤ 65536 := by decide
  clear hu hn hB hR
  cases R
  all_goals
    go_enter Try.func4, Try.ntmps4
    go_wp2_with fail
    refine (bytes9_any _ _ _ hsz).mono ?_
    rintro e w' ⟨rfl, rfl⟩
    go_wp2_with fail
    refine (holds_is _ _ _ _ H1).mono ?_
    rintro e w' ⟨rfl, rfl⟩
    go_wp2_with fail
    refine (unit_any _ _).mono ?_
    rw [HU.out]
    rintro e w' ⟨rfl, rfl⟩
    go_wp2_with fail
    refine (holds_is _ _ _ _ H2).mono ?_
    rintro e w' ⟨rfl, rfl⟩
    go_wp2_with fail
    refine (holds_is _ _ _ _ H3).mono ?_
    rintro e w' ⟨rfl, rfl⟩
    go_wp2_with fail
    refine (holds_is _ _ _ _ H4).mono ?_
    rintro e w' ⟨rfl, rfl⟩
    go_wp2_with fail
    refine (holds_is _ _ _ _ H5).mono ?_
    rintro e w' ⟨rfl, rfl⟩
    go_wp2_with fail
    refine (isOp_lt _).mono ?_
    rintro e w' ⟨rfl, rfl⟩
    go_wp2_with fail
    refine (mir_lt _).mono ?_
    rintro e w' ⟨rfl, rfl⟩
    go_wp2_with fail
    refine (holds_is _ _ _ _ H6).mono ?_
    rintro e w' ⟨rfl, rfl⟩
    go_wp2_with fail
    refine (com_lt _).mono ?_
    rintro e w' ⟨rfl, rfl⟩
    go_wp2_with fail
    refine (holds_is _ _ _ _ H7).mono ?_
    rintro e w' ⟨rfl, rfl⟩
    go_wp2
    go_ret
    exact ⟨rfl, rfl⟩

set_option maxHeartbeats 1000000 in
theorem mirror_eq (s : Int) (w : World) : Calls Try.prog 4 #[.string ⟨#[61]⟩, .int .i64 s] w fun e w' => e = .returned (.bool true) ∧ w' = w := by
  obtain ⟨u, hu⟩ : ∃ u, un s = u := ⟨_, rfl⟩
  have hb := un_bd s
  rw [hu] at hb
  have hn := un_neg s u hu
  have HU : Hid (un s = u) := hu
  obtain ⟨A, hA⟩ : ∃ A, decide (0 < s) = A := ⟨_, rfl⟩
  obtain ⟨B, hB⟩ : ∃ B, decide (s < 0) = B := ⟨_, rfl⟩
  obtain ⟨R, hR⟩ : ∃ R, (s == 0) = R := ⟨_, rfl⟩
  have H1 : Hid (H ⟨#[61]⟩ s = R) := hR
  have H2 : Hid (H ⟨#[61]⟩ u = R) := by
    show (u == 0) = R
    rw [← hR]
    rw [Bool.eq_iff_iff]; simp; omega
  have H3 : Hid (H ⟨#[62]⟩ s = A) := hA
  have H4 : Hid (H ⟨#[60]⟩ s = B) := hB
  have H5 : Hid (H ⟨#[62]⟩ (-u) = B) := by
    show decide (0 < -u) = B
    rw [← hB]
    exact decide_eq_decide.2 (by omega)
  have H6 : Hid (H ⟨#[61]⟩ (-u) = R) := by
    show (-u == 0) = R
    rw [← hR]
    rw [Bool.eq_iff_iff]; simp; omega
  have H7 : Hid (R = !(A || B)) := by
    show R = !(A || B)
    rw [← hR, ← hA, ← hB, Bool.eq_iff_iff]
    simp
    omega
  have hsz : (⟨#[61]⟩ : ByteArray).size ≤ 65536 := by decide
  clear hu hn hB hR
  have H8 := H7.out
  clear H7
  cases R <;> cases A <;> cases B <;> first | (exact absurd H8 (by decide)) | skip
  all_goals clear H8
  all_goals
    go_enter Try.func4, Try.ntmps4
    go_wp2_with fail
    refine (bytes9_any _ _ _ hsz).mono ?_
    rintro e w' ⟨rfl, rfl⟩
    go_wp2_with fail
    refine (holds_is _ _ _ _ H1).mono ?_
    rintro e w' ⟨rfl, rfl⟩
    go_wp2_with fail
    refine (unit_any _ _).mono ?_
    rw [HU.out]
    rintro e w' ⟨rfl, rfl⟩
    go_wp2_with fail
    refine (holds_is _ _ _ _ H2).mono ?_
    rintro e w' ⟨rfl, rfl⟩
    go_wp2_with fail
    refine (holds_is _ _ _ _ H3).mono ?_
    rintro e w' ⟨rfl, rfl⟩
    go_wp2_with fail
    refine (holds_is _ _ _ _ H4).mono ?_
    rintro e w' ⟨rfl, rfl⟩
    go_wp2_with fail
    refine (holds_is _ _ _ _ H5).mono ?_
    rintro e w' ⟨rfl, rfl⟩
    go_wp2_with fail
    refine (isOp_eq _).mono ?_
    rintro e w' ⟨rfl, rfl⟩
    go_wp2_with fail
    refine (mir_eq _).mono ?_
    rintro e w' ⟨rfl, rfl⟩
    go_wp2_with fail
    refine (holds_is _ _ _ _ H6).mono ?_
    rintro e w' ⟨rfl, rfl⟩
    go_wp2
    go_ret
    exact ⟨rfl, rfl⟩

theorem mirror_walk (o : ByteArray) (s : Int) (w : World) : Calls Try.prog 4 #[.string o, .int .i64 s] w fun e w' => e = .returned (.bool true) ∧ w' = w := by
  rcases five o with rfl | rfl | rfl | rfl | rfl | h
  · exact mirror_ge s w
  · exact mirror_gt s w
  · exact mirror_le s w
  · exact mirror_lt s w
  · exact mirror_eq s w
  · exact mirror_other o s w h

end Go.Proofs.Qxb6634831a
