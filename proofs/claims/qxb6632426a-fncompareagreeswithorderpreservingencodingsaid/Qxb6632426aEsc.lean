/-
  SEAT b6632426a: appendEsc and encodeLabels by their contracts: a row of bytes that the call itself grows.
-/
import Derived.Test.Qxb6632426aCompare
import Derived.Test.Qxb6632426aEscPlain
namespace Go.Proofs.Qxb6632426a
open Go.RowKit Go.Proofs.Qxb6632426a.Plain

theorem Try.info5 : (Try.prog.info? 5).map (fun i => (i.zero, i.size, i.bytes)) = some (some (.int .u8 0), 1, 1) := by kernel_rfl

def u8v (c : UInt8) : Value := .int .u8 (c.toNat : Int)
/-- the slice v, made by the call (blocks from base on), holds the bytes l -/
def OB (w : World) (base : Nat) (v : Value) (l : Bs) : Prop := w.ownsRow base 5 1 v l.length (l.map u8v)

theorem OB.own {w : World} {base : Nat} {v : Value} {l : Bs} (h : OB w base v l) : ∀ k, v.ownBlock = some k → base ≤ k := by
  intro k hk
  obtain ⟨_, ⟨rfl, _⟩ | ⟨g, cap, cur, rfl, hg, _⟩⟩ := h
  · simp [Value.ownBlock] at hk
  · simp [Value.ownBlock] at hk
    omega

theorem OB.more {w' : World} {base : Nat} {v' : Value} {l m : Bs} {n : Nat} {news : List Value} (h : w'.ownsRow base 5 1 v' n (l.map u8v ++ news)) (hn : n = l.length + m.length) (hm : news = m.map u8v) : OB w' base v' (l ++ m) := by
  subst hn
  subst hm
  unfold OB
  rw [List.length_append, List.map_append]
  exact h

theorem news_two (w : World) (x y : Value) (t : TypeId) : ∀ j u, [x, y][j]? = some u → (w.alloc (.cells #[x, y] t)).cell? ((⟨w.heap.size, 0, none⟩ : Addr).add j) = some u := by
  intro j u hj
  match j, hj with
  | 0, hj => simp at hj; subst hj; simp [Addr.add]
  | 1, hj => simp at hj; subst hj; simp [Addr.add]

theorem news_one (w : World) (x : Value) (t : TypeId) : ∀ j u, [x][j]? = some u → (w.alloc (.cells #[x] t)).cell? ((⟨w.heap.size, 0, none⟩ : Addr).add j) = some u := by
  intro j u hj
  match j, hj with
  | 0, hj => simp at hj; subst hj; simp [Addr.add]

theorem take_snoc (s : ByteArray) (k : Nat) (h : k < s.size) : s.data.toList.take (k + 1) = s.data.toList.take k ++ [s[k]] := by
  rw [List.take_succ_eq_append_getElem (by simpa using h)]; rfl

def EscPost (w : World) (base : Nat) (l : Bs) (e : Ending) (w' : World) : Prop := ∃ v', e = .returned v' ∧ OB w' base v' l ∧ Below base w w'

theorem u8_ne {c : UInt8} (h : ¬ c = 0) : ((c.toNat : Int) == 0) = false := by
  have : c.toNat ≠ 0 := fun e => h (UInt8.toNat_inj.1 (by simpa using e))
  simp
  omega

set_option maxHeartbeats 2000000 in
theorem appendEsc_any (v : Value) (l : Bs) (s : ByteArray) (base : Nat) (w : World) (hown : OB w base v l) (hb : base ≤ w.heap.size) (hlen : l.length + 2 * s.size + 2 ≤ 1073741824) :
    Calls Try.prog 13 #[v, .string s] w fun e w' => EscPost w base (l ++ escS s.data.toList) e w' := by
  obtain ⟨i0, hi, hz0, hz1, hz2⟩ := info_parts Try.info5
  go_enter Try.func13, Try.ntmps13
  go_wp2
  go_loopw [0, 5, 6] (fun d i _ wr => ∃ k : Nat, k ≤ s.size ∧ i = .int .i64 k ∧ OB wr base d (l ++ esc (s.data.toList.take k)) ∧ Below base w wr) (fun _ i _ _ => s.size - (intOf i).toNat)
  case atStart => exact ⟨0, Nat.zero_le _, rfl, by simpa [esc] using hown, Below.refl _ _⟩
  case round =>
    obtain ⟨k, hk, rfl, ho, hbel⟩ := hrel
    have hs := hbel.size
    have hl1 := esc_len (s.data.toList.take k)
    have hl2 : (s.data.toList.take k).length ≤ k := List.length_take_le _ _
    have hl3 : (l ++ esc (s.data.toList.take k)).length ≤ l.length + 2 * k := by rw [List.length_append]; omega
    obtain ⟨L, hL⟩ : ∃ L, L = l ++ esc (s.data.toList.take k) := ⟨_, rfl⟩
    rw [← hL] at ho hl3
    have HL : Hid (L = l ++ esc (s.data.toList.take k)) := hL
    clear hL hl1 hl2
    have hoo : wr.ownsRow base 5 1 u0 L.length (L.map u8v) := ho
    by_cases h1 : k < s.size
    · have HT : Hid (s.data.toList.take (k + 1) = s.data.toList.take k ++ [s[k]]) := take_snoc s k h1
      by_cases hc : s[k] = 0
      · have hc0 : ((s[k].toNat : Int) == 0) = true := by rw [hc]; rfl
        have HC : Hid (e1 s[k] = [0, 255]) := by show _ = _; rw [hc]; rfl
        clear hc
        go_wp2_with (at_builtin; refine wpList_append_own _ rfl _ _ 29 rfl base 5 i0 (.int .u8 0) 1 1 Try.underlying29 hi hz0 hz1 hz2 rfl (by decide) _ _ _ rfl (hoo.alloc _) ⟨wr.heap.size, 0, none⟩ 2 2 [.int .u8 0, .int .u8 255] rfl rfl (news_two _ _ _ _) ?c2 ?c3 ?c4 ?c5 ?_)
        case c2 => simp [Value.oneCell']
        case c3 => unfold maxLen; omega
        case c4 => omega
        case c5 => simp; omega
        intro v' w1 hown' hgrow _
        have R1 : OB w1 base v' (L ++ [0, 255]) := OB.more hown' (by simp) rfl
        have R2 : Below base w w1 := (hbel.alloc (by omega) _).grown hgrow (by simp; omega) ho.own
        clear hown' hgrow hoo ho hbel
        go_wp2
        go_roundw
        case rel => exact ⟨k + 1, by omega, by go_num, by rw [HT.out, esc_snoc, HC.out, ← List.append_assoc, ← HL.out]; exact R1, R2⟩
        case measure => simp [intOf]; omega
      · have hc0 := u8_ne hc
        have HC : Hid (e1 s[k] = [s[k]]) := if_neg hc
        clear hc
        go_wp2_with (at_builtin; refine wpList_append_own _ rfl _ _ 29 rfl base 5 i0 (.int .u8 0) 1 1 Try.underlying29 hi hz0 hz1 hz2 rfl (by decide) _ _ _ rfl (hoo.alloc _) ⟨wr.heap.size, 0, none⟩ 1 1 [.int .u8 (s[k].toNat : Int)] rfl rfl (news_one _ _ _) ?d2 ?d3 ?d4 ?d5 ?_)
        case d2 => simp [Value.oneCell']
        case d3 => unfold maxLen; omega
        case d4 => omega
        case d5 => simp; omega
        intro v' w1 hown' hgrow _
        have R1 : OB w1 base v' (L ++ [s[k]]) := OB.more hown' (by simp) rfl
        have R2 : Below base w w1 := (hbel.alloc (by omega) _).grown hgrow (by simp; omega) ho.own
        clear hown' hgrow hoo ho hbel
        go_wp2
        go_roundw
        case rel => exact ⟨k + 1, by omega, by go_num, by rw [HT.out, esc_snoc, HC.out, ← List.append_assoc, ← HL.out]; exact R1, R2⟩
        case measure => simp [intOf]; omega
    · have HE : Hid (l ++ escS s.data.toList = L ++ [0, 1]) := by
        show _ = _
        rw [HL.out, List.take_of_length_le (by simp; omega), escS, List.append_assoc]
      go_wp2_with (at_builtin; refine wpList_append_own _ rfl _ _ 29 rfl base 5 i0 (.int .u8 0) 1 1 Try.underlying29 hi hz0 hz1 hz2 rfl (by decide) _ _ _ rfl (hoo.alloc _) ⟨wr.heap.size, 0, none⟩ 2 2 [.int .u8 0, .int .u8 1] rfl rfl (news_two _ _ _ _) ?e2 ?e3 ?e4 ?e5 ?_)
      case e2 => simp [Value.oneCell']
      case e3 => unfold maxLen; omega
      case e4 => omega
      case e5 => simp; omega
      intro v' w1 hown' hgrow _
      have R1 : OB w1 base v' (L ++ [0, 1]) := OB.more hown' (by simp) rfl
      have R2 : Below base w w1 := (hbel.alloc (by omega) _).grown hgrow (by simp; omega) ho.own
      clear hown' hgrow hoo ho hbel
      go_wp2
      go_ret
      exact ⟨v', rfl, by rw [HE.out]; exact R1, R2⟩

end Go.Proofs.Qxb6632426a
