/-
  SEAT b6632535a: zzBuild by its contract: a fresh plan with the same content.
-/
import Derived.Test.Qxb6632535aSame
import Derived.Test.Qxb6632535aRow3
import Derived.Deep.RegionLaw
import Derived.Lib.SliceRun
namespace Go.Proofs.Qxb6632535a
open Go.RowKit

theorem Try.info32 : (Try.prog.info? 32).map (fun i => (i.zero, i.size, i.bytes)) = some (some (.agg #[.string ByteArray.empty, .slice none 0 0, .bool false]), 3, 48) := by kernel_rfl
theorem Try.info41 : (Try.prog.info? 41).map (fun i => (i.zero, i.size, i.bytes)) = some (some (.agg #[.string ByteArray.empty, .string ByteArray.empty, .string ByteArray.empty]), 3, 48) := by kernel_rfl

def mcP (n : Nat) : Array Value := madeCells #[.string ByteArray.empty, .slice none 0 0, .bool false] (n * 3)
def mcH (n : Nat) : Array Value := madeCells #[.string ByteArray.empty, .string ByteArray.empty, .string ByteArray.empty] (n * 3)

theorem run_make_plan (n : Nat) (hn : n ≤ 1048576) (w : World) :
    (Instr.makeSlice 25 (.int .i64 0) (.int .i64 (n : Int))).run Try.prog w = .ok (.slice (some ⟨w.heap.size, 0, none⟩) 0 n) (w.alloc (.cells (mcP n) 32)) := by
  obtain ⟨i, hi, hz0, hz1, hz2⟩ := info_parts Try.info32
  have h := run_make (P := Try.prog) w 25 32 i _ Try.underlying25 hi hz0 .i64 .i64 0 n (by omega) (by omega) (by rw [hz2]; omega) (by omega)
  rw [h, hz1]
  rfl
theorem run_make_hz (n : Nat) (hn : n ≤ 1048576) (w : World) :
    (Instr.makeSlice 30 (.int .i64 0) (.int .i64 (n : Int))).run Try.prog w = .ok (.slice (some ⟨w.heap.size, 0, none⟩) 0 n) (w.alloc (.cells (mcH n) 41)) := by
  obtain ⟨i, hi, hz0, hz1, hz2⟩ := info_parts Try.info41
  have h := run_make (P := Try.prog) w 30 41 i _ Try.underlying30 hi hz0 .i64 .i64 0 n (by omega) (by omega) (by rw [hz2]; omega) (by omega)
  rw [h, hz1]
  rfl

def BuildPost (w : World) (n : Nat) (K : Con) (e : Ending) (w' : World) : Prop :=
  ∃ g A cp, e = .returned (.slice (some ⟨g, 0, none⟩) n n) ∧ SV w' (some ⟨g, 0, none⟩) n K A cp ∧ Below w.heap.size w w'

def upd {α : Type} (f : Nat → α) (k : Nat) (x : α) : Nat → α := fun i => if i = k then x else f i
theorem upd_at {α : Type} (f : Nat → α) (k : Nat) (x : α) : upd f k x k = x := if_pos rfl
theorem upd_lt {α : Type} (f : Nat → α) {k i : Nat} (x : α) (h : i < k) : upd f k x i = f i := if_neg (by omega)

/-- the plan's row after k statements -/
def PRow (w : World) (B n k : Nat) (K : Con) (A : Nat → Option Addr) (cp : Nat → Nat) : Prop :=
  Row3 w B 32 n k (fun i => .string (K.S i)) (fun i => .slice (A i) (K.L i) (cp i)) (fun i => .bool (K.C i)) ∧ ∀ i, i < k → HV w (B + 1) (A i) (K.L i) (K.X i) (K.Y i) (K.Z i)

theorem PRow.push {w w1 : World} {B n k : Nat} {K : Con} {A : Nat → Option Addr} {cp : Nat → Nat} (h : PRow w B n k K A cp) (hw : ∀ b, b < w.heap.size → w1.heap[b]? = w.heap[b]?) {ak : Option Addr} {lk ck : Nat} (hl : K.L k = lk) (hv : HV w1 (B + 1) ak (K.L k) (K.X k) (K.Y k) (K.Z k)) :
    PRow (w1.setCells B (k * 3) [.string (K.S k), .slice ak lk ck, .bool (K.C k)]) B n (k + 1) K (upd A k ak) (upd cp k ck) := by
  obtain ⟨hr, hh⟩ := h
  have hr1 := hr.of_block (hw B hr.lt)
  rw [← Nat.zero_add (k * 3)]
  refine ⟨hr1.push rfl (by show Value.slice (upd A k ak k) (K.L k) (upd cp k ck k) = _; rw [upd_at, upd_at, hl]) rfl (fun i hi => ⟨rfl, by show Value.slice (upd A k ak i) (K.L i) (upd cp k ck i) = _; rw [upd_lt _ _ hi, upd_lt _ _ hi], rfl⟩), fun i hi => ?_⟩
  by_cases e : i = k
  · subst e
    rw [upd_at]
    exact hv.keep fun b hb _ => heap_setCells3 _ _ _ _ _ _ _ (by omega)
  · rw [upd_lt _ _ (by omega)]
    refine ((hh i (by omega)).keep fun b _ hb => hw b hb).keep fun b hb _ => heap_setCells3 _ _ _ _ _ _ _ (by omega)

theorem PRow.below {w w' : World} {B n k : Nat} {K : Con} {A : Nat → Option Addr} {cp : Nat → Nat} (h : PRow w B n k K A cp) (hb : Below w.heap.size w w') : PRow w' B n k K A cp :=
  ⟨h.1.of_block (hb.block B h.1.lt), fun i hi => (h.2 i hi).below hb⟩

theorem PRow.view {w : World} {B n : Nat} {K : Con} {A : Nat → Option Addr} {cp : Nat → Nat} (h : PRow w B n n K A cp) : SV w (some ⟨B, 0, none⟩) n K A cp := by
  refine .inr ⟨B, 0, rfl, fun i hi => ?_⟩
  obtain ⟨e0, e1, e2⟩ := h.1.cells (Nat.le_refl _) hi
  exact ⟨e0, e1, e2, (h.2 i hi).lower (Nat.zero_le _)⟩

theorem below_alloc2 {B : Nat} {a w : World} (h : Below B a w) (hB : B < w.heap.size) (O O' : Obj) : Below B a ((w.alloc O).alloc O') := (h.alloc (by omega) _).alloc (by simp; omega) _

set_option maxHeartbeats 1000000 in
set_option maxRecDepth 100000 in
theorem zzBuild_any (a : Option Addr) (n c : Nat) (K : Con) (A : Nat → Option Addr) (cp : Nat → Nat) (w : World) (hn : n ≤ 65536) (q : SV w a n K A cp) (hL : ∀ i, i < n → K.L i ≤ 1048576) (hnil : ∀ i, i < n → A i = none → K.L i = 0) :
    Calls Try.prog 7 #[.slice a n c] w fun e w' => BuildPost w n K e w' := by
  have q33 : ∀ (w : World) (a : Option Addr) (n c : Nat), (binOp .neq 33 (.slice a n c) (.slice none 0 0)).run Try.prog w = .ok (.bool (!a.isNone)) w := fun w a n c => run_neq_slice_nil_any w _ _ a n c 0 0 Try.underlying33
  have hmk := run_make_plan n (by omega)
  obtain ⟨i0, hi, hz0, hz1, hz2⟩ := info_parts Try.info32
  obtain ⟨i1, hy, hy0, hy1, hy2⟩ := info_parts Try.info41
  go_enter Try.func7, Try.ntmps7
  go_wp2
  obtain ⟨B, hB⟩ : ∃ B : Nat, B = w.heap.size := ⟨_, rfl⟩
  have HB : Hid (B = w.heap.size) := hB
  obtain ⟨w1, hw1⟩ : ∃ x : World, x = w.alloc (.cells (mcP n) 32) := ⟨_, rfl⟩
  have hb1 : Below B w w1 := by rw [hw1, hB]; exact (Below.refl _ _).alloc (Nat.le_refl _) _
  have hp1 : PRow w1 B n 0 K (fun _ => none) (fun _ => 0) := ⟨by rw [hw1, hB]; exact Row3.made _ _ _ _ _ _ _, fun i hi => by omega⟩
  rw [← hw1, ← hB]
  clear hw1 hB hmk
  go_loopw [3, 4, 5, 6, 7] (fun p i _ _ _ wr => ∃ (k : Nat) (A' : Nat → Option Addr) (cp' : Nat → Nat), k ≤ n ∧ i = .int .i64 k ∧ p = .slice (some ⟨B, 0, none⟩) k n ∧ PRow wr B n k K A' cp' ∧ Below B w wr) (fun _ i _ _ _ _ => n - (intOf i).toNat)
  case atStart => exact ⟨0, _, _, Nat.zero_le _, rfl, rfl, hp1, hb1⟩
  case round =>
    clear hp1 hb1
    obtain ⟨k, A', cp', hkn, rfl, rfl, hp, hbel⟩ := hrel
    by_cases h1 : k < n
    · obtain ⟨b, off, rfl, hc⟩ := q.resolve_left (by omega)
      obtain ⟨g1, g2, g3, g4⟩ := hc k h1
      have pb : b < B := by rw [HB.out]; exact cell_block g1
      have r1 := (hbel.cell (p := ⟨b, off + k * 3, none⟩) pb).trans g1
      have r2 := (hbel.cell (p := ⟨b, off + k * 3 + 1, none⟩) pb).trans g2
      have r3 := (hbel.cell (p := ⟨b, off + k * 3 + 2, none⟩) pb).trans g3
      have hLk := hL k h1
      have hNk := hnil k h1
      have hBs := hp.1.lt
      have pbn : b ≠ B := by omega
      clear hc q hL hnil g1 g2 g3
      cases hA : A k with
      | none =>
        have hl0 := hNk hA
        rw [hA] at r2
        clear hNk
        go_wp2
        have hroom := hp.1.room h1
        go_region_held3 (fun w' => w'.cell? ⟨b, off + k * 3, none⟩ = some (.string (K.S k)) ∧ w'.cell? ⟨b, off + k * 3 + 2, none⟩ = some (.bool (K.C k))) (first | (go_keep; done) | exact ⟨keep3 pbn r1, keep3 pbn r3⟩)
          ((first
            | (refine step_append_room rfl (.tmp 58) (.tmp 71) 25 rfl 32 i0 3 Try.underlying25 hi hz1 B 0 k n rfl ⟨wr.heap.size + 1, 0, none⟩ 1 1 [.string (K.S k), .slice none 0 0, .bool (K.C k)] rfl rfl (news_three2 _ _ _ _ _ _) (by simp [Value.oneCell']) (by omega) (spare2 _ _ hBs hroom) ?_)
            | (go_at_call 12; refine (newStatement_any _ _ _ _ _ _).mono ?_; rintro e w' ⟨rfl, rfl⟩)))
        go_wp2
        go_roundw
        case rel =>
          have P1 := hp.push (w1 := ((wr.alloc (.cells #[.string (K.S k), .slice none 0 0, .bool (K.C k)] 32)).alloc (.cells #[.string (K.S k), .slice none 0 0, .bool (K.C k)] 32)).drew) (ak := none) (ck := 0) (heap_alloc2 _ _ _) hl0 (.inl hl0)
          have P2 : Below B w (((wr.alloc (.cells #[.string (K.S k), .slice none 0 0, .bool (K.C k)] 32)).alloc (.cells #[.string (K.S k), .slice none 0 0, .bool (K.C k)] 32)).drew.setCells B (k * 3) [.string (K.S k), .slice none 0 0, .bool (K.C k)]) := below_setCells3 ((below_alloc2 hbel hBs _ _).drew) (Nat.le_refl _) _ _ _ _
          exact ⟨k + 1, _, _, by omega, by go_num, rfl, P1, P2⟩
        case measure => simp [intOf]; omega
      | some ad =>
        rw [hA] at r2 g4
        have hmk := run_make_hz (K.L k) hLk
        clear hNk
        go_wp2
        obtain ⟨Bz, hBz⟩ : ∃ x : Nat, x = wr.heap.size := ⟨_, rfl⟩
        have HZ : Hid (Bz = wr.heap.size) := hBz
        obtain ⟨w2, hw2⟩ : ∃ x : World, x = wr.alloc (.cells (mcH (K.L k)) 41) := ⟨_, rfl⟩
        have hb2 : Below Bz wr w2 := by rw [hw2, hBz]; exact (Below.refl _ _).alloc (Nat.le_refl _) _
        have hr2 : Row3 w2 Bz 41 (K.L k) 0 (fun i => .string (K.X k i)) (fun i => .string (K.Y k i)) (fun i => .string (K.Z k i)) := by rw [hw2, hBz]; exact Row3.made _ _ _ _ _ _ _
        have hBz1 : B < Bz := by rw [hBz]; exact hBs
        obtain ⟨wo, hwo⟩ : ∃ x : World, x = wr := ⟨_, rfl⟩
        rw [← hw2, ← hBz]
        rw [← hwo] at hp hbel r1 r2 r3 HZ hb2
        clear hw2 hBz hmk hwo hBs
        go_loopw [5, 6, 7] (fun z i _ wi => ∃ j : Nat, j ≤ K.L k ∧ i = .int .i64 j ∧ z = .slice (some ⟨Bz, 0, none⟩) j (K.L k) ∧ Row3 wi Bz 41 (K.L k) j (fun i => .string (K.X k i)) (fun i => .string (K.Y k i)) (fun i => .string (K.Z k i)) ∧ Below Bz wo wi) (fun _ i _ _ => K.L k - (intOf i).toNat)
        case atStart => exact ⟨0, Nat.zero_le _, rfl, rfl, hr2, hb2⟩
        case round =>
          clear hr2 hb2
          obtain ⟨j, hj, rfl, rfl, hr, hb⟩ := hrel
          have hBzs := hr.lt
          by_cases h2 : j < K.L k
          · obtain ⟨b', off', hA', _, hc'⟩ := g4.resolve_left (by omega)
            obtain rfl := Option.some.inj hA'
            obtain ⟨s1, s2, s3⟩ := hc' j h2
            have pb' : b' < B := by rw [HB.out]; exact cell_block s1
            have t1 := ((hb.cell (p := ⟨b', off' + j * 3, none⟩) (by show b' < Bz; omega)).trans (hbel.cell pb')).trans s1
            have t2 := ((hb.cell (p := ⟨b', off' + j * 3 + 1, none⟩) (by show b' < Bz; omega)).trans (hbel.cell pb')).trans s2
            have t3 := ((hb.cell (p := ⟨b', off' + j * 3 + 2, none⟩) (by show b' < Bz; omega)).trans (hbel.cell pb')).trans s3
            have v2 := (hb.cell (p := ⟨b, off + k * 3 + 1, none⟩) (by show b < Bz; omega)).trans r2
            have hroom := hr.room h2
            clear hc' g4 hA' s1 s2 s3 r1 r2 r3 hA q33
            go_wp2_with (at_builtin; refine wpList_append_room _ rfl (.tmp 48) (.tmp 56) 30 rfl 41 i1 3 Try.underlying30 hy hy1 Bz 0 j (K.L k) rfl ⟨wr.heap.size + 1, 0, none⟩ 1 1 [.string (K.X k j), .string (K.Y k j), .string (K.Z k j)] rfl rfl (news_three2' _ _ _ _ _ _) (by simp [Value.oneCell']) (by omega) (spare2' _ _ hBzs hroom) ?_)
            go_roundw
            case rel =>
              have P1 := (hr.of_block (w' := (wr.alloc (.cells #[.string (K.X k j), .string (K.Y k j), .string (K.Z k j)] 38)).alloc (.cells #[.string (K.X k j), .string (K.Y k j), .string (K.Z k j)] 41)) (heap_alloc2' _ _ _ _ hBzs)).push (E0 := fun i => .string (K.X k i)) (E1 := fun i => .string (K.Y k i)) (E2 := fun i => .string (K.Z k i)) rfl rfl rfl (fun i _ => ⟨rfl, rfl, rfl⟩)
              rw [Nat.zero_add] at P1
              have P2 : Below Bz wo (((wr.alloc (.cells #[.string (K.X k j), .string (K.Y k j), .string (K.Z k j)] 38)).alloc (.cells #[.string (K.X k j), .string (K.Y k j), .string (K.Z k j)] 41)).setCells Bz (j * 3) [.string (K.X k j), .string (K.Y k j), .string (K.Z k j)]) := below_setCells3 (below_alloc2 hb hBzs _ _) (Nat.le_refl _) _ _ _ _
              exact ⟨j + 1, by omega, by go_num, rfl, P1, P2⟩
            case measure => simp [intOf]; omega
          · obtain rfl : j = K.L k := by omega
            have hv := hr.hazards
            have hp2 := hp.below (HZ.out ▸ hb)
            have hbel2 := hbel.trans (hb.mono (by omega))
            have v1 := (hb.cell (p := ⟨b, off + k * 3, none⟩) (by show b < Bz; omega)).trans r1
            have v3 := (hb.cell (p := ⟨b, off + k * 3 + 2, none⟩) (by show b < Bz; omega)).trans r3
            have v2 := (hb.cell (p := ⟨b, off + k * 3 + 1, none⟩) (by show b < Bz; omega)).trans r2
            have hBs := hp2.1.lt
            clear r1 r2 r3 g4 hA q33 hr
            go_wp2
            have hroom := hp2.1.room h1
            go_region_held3 (fun w' => w'.cell? ⟨b, off + k * 3, none⟩ = some (.string (K.S k)) ∧ w'.cell? ⟨b, off + k * 3 + 2, none⟩ = some (.bool (K.C k))) (first | (go_keep; done) | exact ⟨keep3 pbn v1, keep3 pbn v3⟩)
              ((first
                | (refine step_append_room rfl (.tmp 58) (.tmp 71) 25 rfl 32 i0 3 Try.underlying25 hi hz1 B 0 k n rfl ⟨wr.heap.size + 1, 0, none⟩ 1 1 [.string (K.S k), .slice (some ⟨Bz, 0, none⟩) (K.L k) (K.L k), .bool (K.C k)] rfl rfl (news_three2 _ _ _ _ _ _) (by simp [Value.oneCell']) (by omega) (spare2 _ _ hBs hroom) ?_)
                | (go_at_call 12; refine (newStatement_any _ _ _ _ _ _).mono ?_; rintro e w' ⟨rfl, rfl⟩)))
            go_wp2
            go_roundw
            case rel =>
              have hv2 : HV ((wr.alloc (.cells #[.string (K.S k), .slice (some ⟨Bz, 0, none⟩) (K.L k) (K.L k), .bool (K.C k)] 32)).alloc (.cells #[.string (K.S k), .slice (some ⟨Bz, 0, none⟩) (K.L k) (K.L k), .bool (K.C k)] 32)).drew (B + 1) (some ⟨Bz, 0, none⟩) (K.L k) (K.X k) (K.Y k) (K.Z k) := (hv.lower (by omega)).keep fun x _ hx => heap_alloc2 _ _ _ x hx
              have P1 := hp2.push (w1 := ((wr.alloc (.cells #[.string (K.S k), .slice (some ⟨Bz, 0, none⟩) (K.L k) (K.L k), .bool (K.C k)] 32)).alloc (.cells #[.string (K.S k), .slice (some ⟨Bz, 0, none⟩) (K.L k) (K.L k), .bool (K.C k)] 32)).drew) (ak := some ⟨Bz, 0, none⟩) (ck := K.L k) (heap_alloc2 _ _ _) rfl hv2
              have P2 : Below B w (((wr.alloc (.cells #[.string (K.S k), .slice (some ⟨Bz, 0, none⟩) (K.L k) (K.L k), .bool (K.C k)] 32)).alloc (.cells #[.string (K.S k), .slice (some ⟨Bz, 0, none⟩) (K.L k) (K.L k), .bool (K.C k)] 32)).drew.setCells B (k * 3) [.string (K.S k), .slice (some ⟨Bz, 0, none⟩) (K.L k) (K.L k), .bool (K.C k)]) := below_setCells3 ((below_alloc2 hbel2 hBs _ _).drew) (Nat.le_refl _) _ _ _ _
              exact ⟨k + 1, _, _, by omega, by go_num, rfl, P1, P2⟩
            case measure => simp [intOf]; omega
    · obtain rfl : k = n := by omega
      clear q hL hnil
      go_wp2
      go_ret
      exact ⟨B, A', cp', rfl, hp.view, HB.out ▸ hbel⟩

end Go.Proofs.Qxb6632535a
