/-
  SEAT b6632535a: Plan.Transactions by its contract.
-/
import Derived.Test.Qxb6632535aViews
namespace Go.Proofs.Qxb6632535a
open Go.RowKit

theorem Try.info25 : (Try.prog.info? 25).map (fun i => (i.zero, i.size, i.bytes)) = some (some (.slice none 0 0), 1, 24) := by kernel_rfl

/-- THE PARTS: np slices of the row at ⟨b, off⟩, part i from s i to s (i + 1). -/
def Parts (w : World) (ag : Option Addr) (b off c np : Nat) (s : Nat → Nat) : Prop :=
  np = 0 ∨ ∃ g, ag = some ⟨g, 0, none⟩ ∧ ∀ i, i < np → w.cell? ⟨g, i, none⟩ = some (.slice (some ⟨b, off + s i * 3, none⟩) (s (i + 1) - s i) (c - s i))

/-- how n statements with the flags C are cut: m lead; np parts, bounds s -/
structure Cut (n : Nat) (C : Nat → Bool) (np : Nat) (s : Nat → Nat) (m : Nat) : Prop where
  le : m ≤ n
  lead : ∀ i, i < m → C i = true
  stop : m < n → C m = false
  zero : s 0 = 0
  last : s np = n
  up : ∀ i, i < np → s i < s (i + 1)
  many : (n = 0 ∧ np = 0) ∨ (0 < n ∧ np = 1 ∧ (m = 0 ∨ m = n)) ∨ (0 < m ∧ m < n ∧ np = 2 ∧ s 1 = m)

def TransPost (w : World) (b off n c : Nat) (C : Nat → Bool) (e : Ending) (w' : World) : Prop :=
  ∃ ag np cg s m, e = .returned (.slice ag np cg) ∧ Parts w' ag b off c np s ∧ Cut n C np s m ∧ Below w.heap.size w w'

theorem news_one (w : World) (x : Value) (t : TypeId) : ∀ j u, [x][j]? = some u → (w.alloc (.cells #[x] t)).cell? ((⟨w.heap.size, 0, none⟩ : Addr).add j) = some u := by
  intro j u hj
  match j, hj with
  | 0, hj => simp at hj; subst hj; simp [Addr.add]

theorem own_one {w : World} {base : Nat} {v x : Value} (h : w.ownsRow base 25 1 v 1 [x]) : ∃ g cap, v = .slice (some ⟨g, 0, none⟩) 1 cap ∧ w.cell? ⟨g, 0, none⟩ = some x := by
  obtain ⟨hl, ⟨_, h0⟩ | ⟨g, cap, cur, rfl, hg, hrest⟩⟩ := h
  · cases h0
  · refine ⟨g, cap, rfl, ?_⟩
    have h2 : w.ownsRow base 25 1 (.slice (some ⟨g, 0, none⟩) 1 cap) 1 [x] := ⟨hl, .inr ⟨g, cap, cur, rfl, hg, hrest⟩⟩
    rw [h2.cellAt 0 (by omega)]
    rfl

theorem own_two {w : World} {base : Nat} {v x y : Value} (h : w.ownsRow base 25 1 v 2 [x, y]) : ∃ g cap, v = .slice (some ⟨g, 0, none⟩) 2 cap ∧ w.cell? ⟨g, 0, none⟩ = some x ∧ w.cell? ⟨g, 1, none⟩ = some y := by
  obtain ⟨hl, ⟨_, h0⟩ | ⟨g, cap, cur, rfl, hg, hrest⟩⟩ := h
  · cases h0
  · refine ⟨g, cap, rfl, ?_⟩
    have h2 : w.ownsRow base 25 1 (.slice (some ⟨g, 0, none⟩) 2 cap) 2 [x, y] := ⟨hl, .inr ⟨g, cap, cur, rfl, hg, hrest⟩⟩
    rw [h2.cellAt 0 (by omega), h2.cellAt 1 (by omega)]
    exact ⟨rfl, rfl⟩

theorem own_block {w : World} {base : Nat} {v x : Value} (h : w.ownsRow base 25 1 v 1 [x]) : ∀ k, v.ownBlock = some k → base ≤ k := by
  intro k hk
  obtain ⟨_, ⟨rfl, _⟩ | ⟨g, cap, cur, rfl, hg, _⟩⟩ := h
  · simp [Value.ownBlock] at hk
  · simp [Value.ownBlock] at hk
    omega

theorem parts_one {w : World} {g b off n c : Nat} (h : w.cell? ⟨g, 0, none⟩ = some (.slice (some ⟨b, off, none⟩) n c)) : Parts w (some ⟨g, 0, none⟩) b off c 1 (fun i => if i = 0 then 0 else n) := by
  refine .inr ⟨g, rfl, fun i hi => ?_⟩
  obtain rfl : i = 0 := by omega
  simpa using h

theorem parts_two {w : World} {g b off n c m : Nat} (h0 : w.cell? ⟨g, 0, none⟩ = some (.slice (some ⟨b, off, none⟩) m c)) (h1 : w.cell? ⟨g, 1, none⟩ = some (.slice (some ⟨b, off + m * 3, none⟩) (n - m) (c - m))) : Parts w (some ⟨g, 0, none⟩) b off c 2 (fun i => if i = 0 then 0 else if i = 1 then m else n) := by
  refine .inr ⟨g, rfl, fun i hi => ?_⟩
  match i, hi with
  | 0, _ => simpa using h0
  | 1, _ => simpa using h1

theorem cut_one {n m : Nat} {C : Nat → Bool} (hn : 0 < n) (hm : m = 0 ∨ m = n) (h1 : ∀ i, i < m → C i = true) (h2 : m < n → C m = false) : Cut n C 1 (fun i => if i = 0 then 0 else n) m := by
  refine ⟨by omega, h1, h2, rfl, rfl, fun i hi => ?_, .inr (.inl ⟨hn, rfl, hm⟩)⟩
  obtain rfl : i = 0 := by omega
  simpa using hn

theorem cut_two {n m : Nat} {C : Nat → Bool} (h0 : 0 < m) (hm : m < n) (h1 : ∀ i, i < m → C i = true) (h2 : m < n → C m = false) : Cut n C 2 (fun i => if i = 0 then 0 else if i = 1 then m else n) m := by
  refine ⟨by omega, h1, h2, rfl, rfl, fun i hi => ?_, .inr (.inr ⟨h0, hm, rfl, rfl⟩)⟩
  match i, hi with
  | 0, _ => simpa using h0
  | 1, _ => simpa using hm

theorem cut_none {C : Nat → Bool} : Cut 0 C 0 (fun _ => 0) 0 :=
  { le := Nat.le_refl _, lead := fun i hi => by omega, stop := fun h => by omega, zero := rfl, last := rfl, up := fun i hi => by omega, many := .inl ⟨rfl, rfl⟩ }

set_option maxHeartbeats 2000000 in
theorem transactions_any (b off n c : Nat) (K : Con) (A : Nat → Option Addr) (cp : Nat → Nat) (w : World) (hnc : n ≤ c) (hc1 : c ≤ 1048576) (h : SV w (some ⟨b, off, none⟩) n K A cp) :
    Calls Try.prog 8 #[.slice (some ⟨b, off, none⟩) n c] w fun e w' => TransPost w b off n c K.C e w' := by
  obtain ⟨i0, hi, hz0, hz1, hz2⟩ := info_parts Try.info25
  go_enter Try.func8, Try.ntmps8
  go_wp2
  go_loop [3] (fun i => ∃ k : Nat, k ≤ n ∧ i = .int .i64 k ∧ ∀ j, j < k → K.C j = true) (fun i => n - (intOf i).toNat)
  case atStart => exact ⟨0, Nat.zero_le _, rfl, fun j hj => by omega⟩
  case round =>
    obtain ⟨k, hk, rfl, hall⟩ := hrel
    have HA : Hid (∀ j, j < k → K.C j = true) := hall
    clear hall
    by_cases h1 : k < n
    · obtain ⟨b1, off1, hab, hcell⟩ := h.resolve_left (by omega)
      simp only [Option.some.injEq, Addr.mk.injEq] at hab
      obtain ⟨rfl, rfl, _⟩ := hab
      obtain ⟨_, _, g3, _⟩ := hcell k h1
      clear hcell h
      cases hC : K.C k with
      | true =>
        rw [hC] at g3
        have HC : Hid (K.C k = true) := hC
        clear hC
        go_wp2
        go_round
        case rel => exact ⟨k + 1, by omega, by go_num, fun j hj => by by_cases e : j = k; (rw [e]; exact HC.out); exact HA.out j (by omega)⟩
        case measure => simp [intOf]; omega
      | false =>
        rw [hC] at g3
        have HC : Hid (K.C k = false) := hC
        clear hC
        by_cases h0 : k = 0
        · subst h0
          go_wp2_with (at_builtin; refine wpList_append_own _ rfl _ _ 27 rfl w.heap.size 25 i0 (.slice none 0 0) 1 24 Try.underlying27 hi hz0 hz1 hz2 rfl (by decide) _ 0 [] rfl (World.ownsRow_nil _ _ _ _) ⟨w.heap.size, 0, none⟩ 1 1 [.slice (some ⟨b, off, none⟩) n c] rfl rfl (news_one _ _ _) (by simp [Value.oneCell']) (by unfold maxLen; omega) (by omega) (by simp) ?_)
          intro v1 w1 hown hgrow _
          obtain ⟨g, cap, hv, hcell⟩ := own_one hown
          have hb1 : Below w.heap.size w w1 := ((Below.refl _ _).alloc (Nat.le_refl _) _).grown hgrow (by simp) (fun k hk => by simp [Value.ownBlock] at hk)
          subst hv
          clear hown hgrow
          go_wp2
          go_ret
          exact ⟨_, 1, _, _, 0, rfl, parts_one hcell, cut_one (by omega) (.inl rfl) HA.out (fun _ => HC.out), hb1⟩
        · go_wp2_with (at_builtin; refine wpList_append_own _ rfl _ _ 27 rfl w.heap.size 25 i0 (.slice none 0 0) 1 24 Try.underlying27 hi hz0 hz1 hz2 rfl (by decide) _ 0 [] rfl (World.ownsRow_nil _ _ _ _) ⟨w.heap.size, 0, none⟩ 1 1 [.slice (some ⟨b, off, none⟩) k c] rfl rfl (news_one _ _ _) (by simp [Value.oneCell']) (by unfold maxLen; omega) (by omega) (by simp) ?_)
          intro v1 w1 hown hgrow _
          have hb1 : Below w.heap.size w w1 := ((Below.refl _ _).alloc (Nat.le_refl _) _).grown hgrow (by simp) (fun k hk => by simp [Value.ownBlock] at hk)
          have hob := own_block hown
          have hs1 := hb1.size
          clear hgrow
          go_wp2_with (at_builtin; refine wpList_append_own _ rfl _ _ 27 rfl w.heap.size 25 i0 (.slice none 0 0) 1 24 Try.underlying27 hi hz0 hz1 hz2 rfl (by decide) v1 1 _ rfl (hown.alloc _) ⟨w1.heap.size, 0, none⟩ 1 1 [.slice (some ⟨b, off + k * 3, none⟩) (n - k) (c - k)] rfl rfl (news_one _ _ _) (by simp [Value.oneCell']) (by unfold maxLen; omega) (by omega) (by simp; omega) ?_)
          intro v2 w2 hown2 hgrow2 _
          obtain ⟨g, cap, hv, hcell0, hcell1⟩ := own_two hown2
          have hb2 : Below w.heap.size w w2 := (hb1.alloc hs1 _).grown hgrow2 (by simp; omega) hob
          subst hv
          clear hown hown2 hgrow2
          go_wp2
          go_ret
          exact ⟨_, 2, _, _, k, rfl, parts_two hcell0 hcell1, cut_two (by omega) h1 HA.out (fun _ => HC.out), hb2⟩
    · obtain rfl : k = n := by omega
      clear h
      by_cases h0 : k = 0
      · subst h0
        go_wp2
        go_ret
        exact ⟨_, 0, _, _, 0, rfl, .inl rfl, cut_none, Below.refl _ _⟩
      · go_wp2_with (at_builtin; refine wpList_append_own _ rfl _ _ 27 rfl w.heap.size 25 i0 (.slice none 0 0) 1 24 Try.underlying27 hi hz0 hz1 hz2 rfl (by decide) _ 0 [] rfl (World.ownsRow_nil _ _ _ _) ⟨w.heap.size, 0, none⟩ 1 1 [.slice (some ⟨b, off, none⟩) k c] rfl rfl (news_one _ _ _) (by simp [Value.oneCell']) (by unfold maxLen; omega) (by omega) (by simp) ?_)
        intro v1 w1 hown hgrow _
        obtain ⟨g, cap, hv, hcell⟩ := own_one hown
        have hb1 : Below w.heap.size w w1 := ((Below.refl _ _).alloc (Nat.le_refl _) _).grown hgrow (by simp) (fun k hk => by simp [Value.ownBlock] at hk)
        subst hv
        clear hown hgrow
        go_wp2
        go_ret
        exact ⟨_, 1, _, _, k, rfl, parts_one hcell, cut_one (by omega) (.inr rfl) HA.out (fun h => by omega), hb1⟩

end Go.Proofs.Qxb6632535a
