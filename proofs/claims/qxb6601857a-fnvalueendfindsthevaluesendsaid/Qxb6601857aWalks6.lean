/-
  THE WALKS of seat b6601857a, part 6: valueEnd at a plain value; ZZValueEnd.
-/
import Derived.Test.Qxb6601857aWalks5
namespace Go.Proofs.Qxb6601857a
open Go.RowKit

theorem ord_facts (n : Nat) (h : J.ord n) : wsB n = false ∧ n ≠ 44 ∧ n ≠ 125 ∧ n ≠ 93 ∧ n ≠ 34 ∧ n ≠ 123 ∧ n ≠ 91 := by
  unfold J.ord J.delim J.ws at h
  refine ⟨?_, by omega, by omega, by omega, by omega, by omega, by omega⟩
  cases hw : wsB n with
  | false => rfl
  | true => have := (wsB_iff n).1 hw; unfold J.ws at this; omega

set_option maxRecDepth 100000 in
set_option maxHeartbeats 1000000 in
theorem valueEnd_plain (s : ByteArray) (k e0 blk : Nat) (w : World) (hs : s.size ≤ 1048576) (hc0 : w.cell? ⟨blk, 0, none⟩ = some (.string s)) (hke : k < e0) (he : e0 ≤ s.size)
    (ho : ∀ j, k ≤ j → j < e0 → J.ord (J.B s j)) (hd : e0 = s.size ∨ J.delim (J.B s e0)) :
    Calls Try.prog 23 #[.pointer (some ⟨blk, 0, none⟩), .int .i64 (k : Int)] w fun e w' => e = .returned (.int .i64 (e0 : Int)) ∧ w' = w := by
  have hk : k < s.size := by omega
  have HO := hide ho
  have HD := hide hd
  obtain ⟨_, _, _, _, q34, q123, q91⟩ := ord_facts _ (ho k (Nat.le_refl _) hke)
  rw [J.B_at s k hk] at q34 q123 q91
  have n34 : ((s[k].toNat : Int) == 34) = false := by simp; omega
  have n123 : ((s[k].toNat : Int) == 123) = false := by simp; omega
  have n91 : ((s[k].toNat : Int) == 91) = false := by simp; omega
  clear ho hd q34 q123 q91
  go_enter Try.func23, Try.ntmps23
  go_wp2
  go_loop [1] (fun x => ∃ p : Nat, x = .int .i64 (p : Int) ∧ k ≤ p ∧ p ≤ e0) (fun x => s.size - (intOf x).toNat)
  case atStart => exact ⟨k, rfl, Nat.le_refl _, by omega⟩
  case round =>
    obtain ⟨p, rfl, hp1, hp2⟩ := hrel
    by_cases hlt : p < e0
    · have hps : p < s.size := by omega
      obtain ⟨q0, q44, q125, q93, _, _, _⟩ := ord_facts _ (HO.out p hp1 hlt)
      rw [J.B_at s p hps] at q0 q44 q125 q93
      have m44 : ((s[p].toNat : Int) != 44) = true := by simp; omega
      have m125 : ((s[p].toNat : Int) != 125) = true := by simp; omega
      have m93 : ((s[p].toNat : Int) != 93) = true := by simp; omega
      clear q44 q125 q93
      go_wp2_with (go_at_call 31; refine (isSpace_any _ _).mono ?_; rintro e w' ⟨rfl, rfl⟩)
      go_round
      case rel => exact ⟨p + 1, by go_num, by omega, by omega⟩
      case measure => simp [intOf]; omega
    · have hpe : p = e0 := by omega
      subst hpe
      by_cases hps : p < s.size
      · have hdl : J.delim (s[p].toNat) := by
          rcases HD.out with h | h
          · omega
          · rw [J.B_at s p hps] at h; exact h
        cases hw : wsB s[p].toNat with
        | true =>
          clear hdl
          go_wp2_with (go_at_call 31; refine (isSpace_any _ _).mono ?_; rintro e w' ⟨rfl, rfl⟩)
          go_ret
          exact ⟨rfl, rfl⟩
        | false =>
          have h3 : s[p].toNat = 44 ∨ s[p].toNat = 125 ∨ s[p].toNat = 93 := by
            rcases hdl with h | h
            · have := (wsB_iff _).2 h; rw [hw] at this; cases this
            · exact h
          clear hdl
          by_cases h44 : s[p].toNat = 44
          · have m44 : ((s[p].toNat : Int) != 44) = false := by simp; omega
            clear h3 h44
            go_wp2_with (go_at_call 31; refine (isSpace_any _ _).mono ?_; rintro e w' ⟨rfl, rfl⟩)
            go_ret
            exact ⟨rfl, rfl⟩
          · have m44 : ((s[p].toNat : Int) != 44) = true := by simp; omega
            by_cases h125 : s[p].toNat = 125
            · have m125 : ((s[p].toNat : Int) != 125) = false := by simp; omega
              clear h3 h44 h125
              go_wp2_with (go_at_call 31; refine (isSpace_any _ _).mono ?_; rintro e w' ⟨rfl, rfl⟩)
              go_ret
              exact ⟨rfl, rfl⟩
            · have m125 : ((s[p].toNat : Int) != 125) = true := by simp; omega
              have m93 : ((s[p].toNat : Int) != 93) = false := by simp; omega
              clear h3 h44 h125
              go_wp2_with (go_at_call 31; refine (isSpace_any _ _).mono ?_; rintro e w' ⟨rfl, rfl⟩)
              go_ret
              exact ⟨rfl, rfl⟩
      · go_wp2
        go_ret
        exact ⟨rfl, rfl⟩

/-! ### ZZValueEnd -/
def textObj (s : ByteArray) (r : Option Nat) : Obj := .cells #[.string s, .map r, .map none, .map none] 46

theorem cell_text (s : ByteArray) (r : Option Nat) (w : World) : (w.alloc (textObj s r)).cell? ⟨w.heap.size, 0, none⟩ = some (.string s) := by unfold textObj; go_simp
theorem cell_ends (s : ByteArray) (r : Option Nat) (w : World) : (w.alloc (textObj s r)).cell? ⟨w.heap.size, 1, none⟩ = some (.map r) := by unfold textObj; go_simp

theorem zz_of (s : ByteArray) (k : Nat) (r : Option Nat) (w : World) (x : Int)
    (hc : Calls Try.prog 23 #[.pointer (some ⟨w.heap.size, 0, none⟩), .int .i64 (k : Int)] (w.alloc (textObj s r)) fun e w' => e = .returned (.int .i64 x) ∧ w' = w.alloc (textObj s r)) :
    Calls Try.prog 17 #[.string s, .map r, .int .i64 (k : Int)] w fun e w' => e = .returned (.int .i64 x) ∧ Below w.heap.size w w' := by
  have HC := hide hc
  clear hc
  go_enter Try.func17, Try.ntmps17
  go_wp2_with fail
  unfold textObj at HC
  refine HC.out.mono ?_
  rintro e w' ⟨rfl, rfl⟩
  go_wp2_with fail
  go_ret
  exact ⟨rfl, (Below.refl _ _).alloc (Nat.le_refl _) _⟩

/-- No map: the value's end. -/
theorem zz_nil (s : ByteArray) (k e0 : Nat) (w : World) (hs : s.size ≤ 1048576) (he : J.End s k e0) :
    Calls Try.prog 17 #[.string s, .map none, .int .i64 (k : Int)] w fun e w' => e = .returned (.int .i64 (e0 : Int)) ∧ Below w.heap.size w w' := by
  refine zz_of s k none w e0 ?_
  have h0 := cell_text s none w
  have h1 := cell_ends s none w
  obtain ⟨a, b, h | h | h⟩ := he
  · exact valueEnd_str s k e0 _ _ hs h0 h.1 h.2
  · exact valueEnd_scan s k e0 _ _ _ hs h0 h1 (look_nil _ _) h.1 h.2
  · exact valueEnd_plain s k e0 _ _ hs h0 a b h.1 h.2

/-- A map with the one entry k, and no container at k: the value's end. -/
theorem zz_miss (s : ByteArray) (k e0 b : Nat) (w : World) (hs : s.size ≤ 1048576) (he : J.End s k e0) (hn : ¬ (J.B s k = 123 ∨ J.B s k = 91)) :
    Calls Try.prog 17 #[.string s, .map (some b), .int .i64 (k : Int)] w fun e w' => e = .returned (.int .i64 (e0 : Int)) ∧ Below w.heap.size w w' := by
  refine zz_of s k (some b) w e0 ?_
  have h0 := cell_text s (some b) w
  obtain ⟨a, b, h | h | h⟩ := he
  · exact valueEnd_str s k e0 _ _ hs h0 h.1 h.2
  · exact absurd h.1 hn
  · exact valueEnd_plain s k e0 _ _ hs h0 a b h.1 h.2

/-- A map with the one entry k, and a container at k: the entry. -/
theorem zz_hit (s : ByteArray) (k b : Nat) (x : Int) (w : World) (hm : w.heap[b]? = some (oneMap (k : Int) x)) (hn : J.B s k = 123 ∨ J.B s k = 91) :
    Calls Try.prog 17 #[.string s, .map (some b), .int .i64 (k : Int)] w fun e w' => e = .returned (.int .i64 x) ∧ Below w.heap.size w w' := by
  refine zz_of s k (some b) w x ?_
  have hb : b < w.heap.size := by
    by_cases hh : b < w.heap.size
    · exact hh
    · rw [Array.getElem?_eq_none (by omega)] at hm; cases hm
  exact valueEnd_hit s k _ x _ _ (cell_text s (some b) w) (cell_ends s (some b) w) (look_one _ _ b _ (by rw [Below.heap_alloc w _ b hb]; exact hm)) hn
end Go.Proofs.Qxb6601857a
