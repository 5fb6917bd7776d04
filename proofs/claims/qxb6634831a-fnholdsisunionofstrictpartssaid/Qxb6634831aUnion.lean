/-
  SEAT b6634831a: FnHoldsIsUnionOfStrictParts: the walks, a symbol and a sign each.
-/
import Derived.Test.Qxb6634831aHolds
namespace Go.Proofs.Qxb6634831a
open Go.RowKit

set_option maxHeartbeats 1000000 in
theorem union_ge (s : Int) (w : World) : Calls Try.prog 3 #[.string ⟨#[62, 61]⟩, .int .i64 s] w fun e w' => e = .returned (.bool true) ∧ w' = w := by
  rcases (show 0 < s ∨ s = 0 ∨ s < 0 by omega) with hs | rfl | hs
  · have a1 : decide (0 ≤ s) = true := by simp; omega
    have a2 : decide (0 < s) = true := by simp; omega
    have a3 : decide (s ≤ 0) = false := by simp; omega
    have a4 : decide (s < 0) = false := by simp; omega
    have a5 : (s == 0) = false := by simp; omega
    go_enter Try.func3, Try.ntmps3
    go_wp2
    go_ret
    exact ⟨rfl, rfl⟩
  · go_enter Try.func3, Try.ntmps3
    go_wp2
    go_ret
    exact ⟨rfl, rfl⟩
  · have a1 : decide (0 ≤ s) = false := by simp; omega
    have a2 : decide (0 < s) = false := by simp; omega
    have a3 : decide (s ≤ 0) = true := by simp; omega
    have a4 : decide (s < 0) = true := by simp; omega
    have a5 : (s == 0) = false := by simp; omega
    go_enter Try.func3, Try.ntmps3
    go_wp2
    go_ret
    exact ⟨rfl, rfl⟩

set_option maxHeartbeats 1000000 in
theorem union_gt (s : Int) (w : World) : Calls Try.prog 3 #[.string ⟨#[62]⟩, .int .i64 s] w fun e w' => e = .returned (.bool true) ∧ w' = w := by
  rcases (show 0 < s ∨ s = 0 ∨ s < 0 by omega) with hs | rfl | hs
  · have a1 : decide (0 ≤ s) = true := by simp; omega
    have a2 : decide (0 < s) = true := by simp; omega
    have a3 : decide (s ≤ 0) = false := by simp; omega
    have a4 : decide (s < 0) = false := by simp; omega
    have a5 : (s == 0) = false := by simp; omega
    go_enter Try.func3, Try.ntmps3
    go_wp2
    go_ret
    exact ⟨rfl, rfl⟩
  · go_enter Try.func3, Try.ntmps3
    go_wp2
    go_ret
    exact ⟨rfl, rfl⟩
  · have a1 : decide (0 ≤ s) = false := by simp; omega
    have a2 : decide (0 < s) = false := by simp; omega
    have a3 : decide (s ≤ 0) = true := by simp; omega
    have a4 : decide (s < 0) = true := by simp; omega
    have a5 : (s == 0) = false := by simp; omega
    go_enter Try.func3, Try.ntmps3
    go_wp2
    go_ret
    exact ⟨rfl, rfl⟩

set_option maxHeartbeats 1000000 in
theorem union_le (s : Int) (w : World) : Calls Try.prog 3 #[.string ⟨#[60, 61]⟩, .int .i64 s] w fun e w' => e = .returned (.bool true) ∧ w' = w := by
  rcases (show 0 < s ∨ s = 0 ∨ s < 0 by omega) with hs | rfl | hs
  · have a1 : decide (0 ≤ s) = true := by simp; omega
    have a2 : decide (0 < s) = true := by simp; omega
    have a3 : decide (s ≤ 0) = false := by simp; omega
    have a4 : decide (s < 0) = false := by simp; omega
    have a5 : (s == 0) = false := by simp; omega
    go_enter Try.func3, Try.ntmps3
    go_wp2
    go_ret
    exact ⟨rfl, rfl⟩
  · go_enter Try.func3, Try.ntmps3
    go_wp2
    go_ret
    exact ⟨rfl, rfl⟩
  · have a1 : decide (0 ≤ s) = false := by simp; omega
    have a2 : decide (0 < s) = false := by simp; omega
    have a3 : decide (s ≤ 0) = true := by simp; omega
    have a4 : decide (s < 0) = true := by simp; omega
    have a5 : (s == 0) = false := by simp; omega
    go_enter Try.func3, Try.ntmps3
    go_wp2
    go_ret
    exact ⟨rfl, rfl⟩

set_option maxHeartbeats 1000000 in
theorem union_lt (s : Int) (w : World) : Calls Try.prog 3 #[.string ⟨#[60]⟩, .int .i64 s] w fun e w' => e = .returned (.bool true) ∧ w' = w := by
  rcases (show 0 < s ∨ s = 0 ∨ s < 0 by omega) with hs | rfl | hs
  · have a1 : decide (0 ≤ s) = true := by simp; omega
    have a2 : decide (0 < s) = true := by simp; omega
    have a3 : decide (s ≤ 0) = false := by simp; omega
    have a4 : decide (s < 0) = false := by simp; omega
    have a5 : (s == 0) = false := by simp; omega
    go_enter Try.func3, Try.ntmps3
    go_wp2
    go_ret
    exact ⟨rfl, rfl⟩
  · go_enter Try.func3, Try.ntmps3
    go_wp2
    go_ret
    exact ⟨rfl, rfl⟩
  · have a1 : decide (0 ≤ s) = false := by simp; omega
    have a2 : decide (0 < s) = false := by simp; omega
    have a3 : decide (s ≤ 0) = true := by simp; omega
    have a4 : decide (s < 0) = true := by simp; omega
    have a5 : (s == 0) = false := by simp; omega
    go_enter Try.func3, Try.ntmps3
    go_wp2
    go_ret
    exact ⟨rfl, rfl⟩

set_option maxHeartbeats 1000000 in
theorem union_eq (s : Int) (w : World) : Calls Try.prog 3 #[.string ⟨#[61]⟩, .int .i64 s] w fun e w' => e = .returned (.bool true) ∧ w' = w := by
  rcases (show 0 < s ∨ s = 0 ∨ s < 0 by omega) with hs | rfl | hs
  · have a1 : decide (0 ≤ s) = true := by simp; omega
    have a2 : decide (0 < s) = true := by simp; omega
    have a3 : decide (s ≤ 0) = false := by simp; omega
    have a4 : decide (s < 0) = false := by simp; omega
    have a5 : (s == 0) = false := by simp; omega
    go_enter Try.func3, Try.ntmps3
    go_wp2
    go_ret
    exact ⟨rfl, rfl⟩
  · go_enter Try.func3, Try.ntmps3
    go_wp2
    go_ret
    exact ⟨rfl, rfl⟩
  · have a1 : decide (0 ≤ s) = false := by simp; omega
    have a2 : decide (0 < s) = false := by simp; omega
    have a3 : decide (s ≤ 0) = true := by simp; omega
    have a4 : decide (s < 0) = true := by simp; omega
    have a5 : (s == 0) = false := by simp; omega
    go_enter Try.func3, Try.ntmps3
    go_wp2
    go_ret
    exact ⟨rfl, rfl⟩

set_option maxHeartbeats 1000000 in
theorem union_other (o : ByteArray) (s : Int) (w : World) (h : Other o) : Calls Try.prog 3 #[.string o, .int .i64 s] w fun e w' => e = .returned (.bool true) ∧ w' = w := by
  by_cases d0 : 1048576 < (o.size : Int)
  · go_enter Try.func3, Try.ntmps3
    go_wp2
    go_ret
    exact ⟨rfl, rfl⟩
  by_cases d1 : 65536 < (o.size : Int)
  · go_enter Try.func3, Try.ntmps3
    go_wp2
    go_ret
    exact ⟨rfl, rfl⟩
  have h1 := h.ge
  have h2 := h.gt
  have h3 := h.le
  have h4 := h.lt
  have h5 := h.eq
  rcases (show 0 < s ∨ s = 0 ∨ s < 0 by omega) with hs | rfl | hs
  · have a1 : decide (0 ≤ s) = true := by simp; omega
    have a2 : decide (0 < s) = true := by simp; omega
    have a3 : decide (s ≤ 0) = false := by simp; omega
    have a4 : decide (s < 0) = false := by simp; omega
    have a5 : (s == 0) = false := by simp; omega
    go_enter Try.func3, Try.ntmps3
    go_wp2_with (first | (go_at_call 8; refine (isOp_other _ _ h).mono ?_; rintro e w' ⟨rfl, rfl⟩) | go_in)
    go_ret
    exact ⟨rfl, rfl⟩
  · go_enter Try.func3, Try.ntmps3
    go_wp2_with (first | (go_at_call 8; refine (isOp_other _ _ h).mono ?_; rintro e w' ⟨rfl, rfl⟩) | go_in)
    go_ret
    exact ⟨rfl, rfl⟩
  · have a1 : decide (0 ≤ s) = false := by simp; omega
    have a2 : decide (0 < s) = false := by simp; omega
    have a3 : decide (s ≤ 0) = true := by simp; omega
    have a4 : decide (s < 0) = true := by simp; omega
    have a5 : (s == 0) = false := by simp; omega
    go_enter Try.func3, Try.ntmps3
    go_wp2_with (first | (go_at_call 8; refine (isOp_other _ _ h).mono ?_; rintro e w' ⟨rfl, rfl⟩) | go_in)
    go_ret
    exact ⟨rfl, rfl⟩

theorem union_walk (o : ByteArray) (s : Int) (w : World) : Calls Try.prog 3 #[.string o, .int .i64 s] w fun e w' => e = .returned (.bool true) ∧ w' = w := by
  rcases five o with rfl | rfl | rfl | rfl | rfl | h
  · exact union_ge s w
  · exact union_gt s w
  · exact union_le s w
  · exact union_lt s w
  · exact union_eq s w
  · exact union_other o s w h

end Go.Proofs.Qxb6634831a
