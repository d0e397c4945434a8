/-
  THE WALKS of seat b6601857a, part 1: the leaves: jvSpace, jvSkip, jvIsHex, jvString, jvDigits.
-/
import Derived.Test.Qxb6601857aRows
import Derived.Test.Qxb6601857aShelf
import Derived.Test.Qxb6601857aPlain
import Derived.WalkKit
import Derived.Deep.DeepCutAuto
import Derived.Deep.QuietTactic
import Derived.BigQuiet
namespace Go.Proofs.Qxb6601857a
open Go.RowKit

theorem hide {p : Prop} (h : p) : Hid p := h
theorem ret_int {k : IntKind} {a b : Int} (h : a = b) : Ending.returned (.int k a) = .returned (.int k b) := by rw [h]

theorem ret_bool {a b : Bool} (h : a = b) : Ending.returned (.bool a) = .returned (.bool b) := by rw [h]

def wsB (n : Nat) : Bool := n == 32 || n == 9 || n == 10 || n == 13
theorem wsB_iff (n : Nat) : wsB n = true ↔ J.ws n := by simp [wsB, J.ws, or_assoc]
theorem wsB_int (c : UInt8) : wsB c.toNat = ((c.toNat : Int) == 32 || (c.toNat : Int) == 9 || (c.toNat : Int) == 10 || (c.toNat : Int) == 13) := by
  rw [Bool.eq_iff_iff]
  simp [wsB]
  omega
theorem jvSpace_any (c : UInt8) (w : World) :
    Calls Try.prog 24 #[.int .u8 (c.toNat : Int)] w fun e w' => e = .returned (.bool (wsB c.toNat)) ∧ w' = w := by
  have H := hide (wsB_int c)
  go_enter Try.func24, Try.ntmps24
  go_wp2
  all_goals
    go_ret
    exact ⟨by rw [H.out]; simp [*], rfl⟩
theorem isSpace_any (c : UInt8) (w : World) :
    Calls Try.prog 31 #[.int .u8 (c.toNat : Int)] w fun e w' => e = .returned (.bool (wsB c.toNat)) ∧ w' = w := by
  have H := hide (wsB_int c)
  go_enter Try.func31, Try.ntmps31
  go_wp2
  all_goals
    go_ret
    exact ⟨by rw [H.out]; simp [*], rfl⟩

def hexB (n : Nat) : Bool := (decide (48 ≤ n) && decide (n ≤ 57)) || (decide (97 ≤ n) && decide (n ≤ 102)) || (decide (65 ≤ n) && decide (n ≤ 70))
theorem hexB_int (c : UInt8) : hexB c.toNat = ((decide (48 ≤ (c.toNat : Int)) && decide ((c.toNat : Int) ≤ 57)) || (decide (97 ≤ (c.toNat : Int)) && decide ((c.toNat : Int) ≤ 102)) || (decide (65 ≤ (c.toNat : Int)) && decide ((c.toNat : Int) ≤ 70))) := by
  rw [Bool.eq_iff_iff]
  simp [hexB]
  omega
theorem hexB_ne (n : Nat) (h : hexB n = true) : n ≠ 34 ∧ n ≠ 92 := by
  simp [hexB] at h
  omega
theorem jvIsHex_any (c : UInt8) (w : World) :
    Calls Try.prog 32 #[.int .u8 (c.toNat : Int)] w fun e w' => e = .returned (.bool (hexB c.toNat)) ∧ w' = w := by
  have H := hide (hexB_int c)
  go_enter Try.func32, Try.ntmps32
  go_wp2
  all_goals
    go_ret
    exact ⟨ret_bool (by rw [H.out, Bool.eq_iff_iff]; simp; omega), rfl⟩

set_option maxHeartbeats 400000 in
theorem jvSkip_any (s : ByteArray) (i : Nat) (w : World) (hs : s.size ≤ 1048576) (hi : i ≤ s.size) :
    Calls Try.prog 19 #[.string s, .int .i64 (i : Int)] w fun e w' => (∃ j : Nat, e = .returned (.int .i64 (j : Int)) ∧ i ≤ j ∧ j ≤ s.size ∧ ∀ k, i ≤ k → k < j → J.ws (J.B s k)) ∧ w' = w := by
  go_enter Try.func19, Try.ntmps19
  go_wp2
  go_loop [1] (fun t => ∃ k : Nat, t = .int .i64 (k : Int) ∧ i ≤ k ∧ k ≤ s.size ∧ ∀ m, i ≤ m → m < k → J.ws (J.B s m)) (fun t => s.size - (intOf t).toNat)
  case atStart => exact ⟨i, rfl, Nat.le_refl _, hi, fun m a b => by omega⟩
  case round =>
    obtain ⟨k, rfl, hik, hk, hr⟩ := hrel
    have HR := hide hr
    clear hr
    by_cases hlt : k < s.size
    · have HB := hide (J.B_at s k hlt)
      cases hsp : wsB s[k].toNat with
      | true =>
        have HW := hide ((wsB_iff _).1 hsp)
        go_wp2_with (go_at_call 24; refine (jvSpace_any _ _).mono ?_; rintro e w' ⟨rfl, rfl⟩)
        go_round
        case rel => exact ⟨k + 1, by go_num, by omega, by omega, fun m a b => by
          by_cases hm : m = k
          · rw [hm, HB.out]; exact HW.out
          · exact HR.out m a (by omega)⟩
        case measure => simp [intOf]; omega
      | false =>
        go_wp2_with (go_at_call 24; refine (jvSpace_any _ _).mono ?_; rintro e w' ⟨rfl, rfl⟩)
        go_ret
        exact ⟨⟨k, rfl, hik, hk, HR.out⟩, rfl⟩
    · go_wp2
      go_ret
      exact ⟨⟨k, rfl, hik, hk, HR.out⟩, rfl⟩

/-- A run of bytes that a plain value is made of. -/
def Run (s : ByteArray) (i e : Nat) : Prop := ∀ j, i ≤ j → j < e → J.ord (J.B s j)
theorem Run.nil (s : ByteArray) (i : Nat) : Run s i i := fun j a b => by omega
theorem Run.snoc {s : ByteArray} {i e : Nat} (h : Run s i e) (he : J.ord (J.B s e)) : Run s i (e + 1) := fun j a b => by
  by_cases hj : j = e
  · rw [hj]; exact he
  · exact h j a (by omega)
theorem Run.trans {s : ByteArray} {i e f : Nat} (h : Run s i e) (k : Run s e f) : Run s i f := fun j a b => by
  by_cases hj : j < e
  · exact h j a hj
  · exact k j (by omega) b
theorem ord_digit (n : Nat) (h1 : 48 ≤ n) (h2 : n ≤ 57) : J.ord n := by unfold J.ord J.delim J.ws; omega

set_option maxHeartbeats 400000 in
theorem jvDigits_any (s : ByteArray) (i : Nat) (w : World) (hs : s.size ≤ 1048576) (hi : i ≤ s.size) :
    Calls Try.prog 33 #[.string s, .int .i64 (i : Int)] w fun e w' => (∃ j : Nat, e = .returned (.int .i64 (j : Int)) ∧ i ≤ j ∧ j ≤ s.size ∧ Run s i j) ∧ w' = w := by
  go_enter Try.func33, Try.ntmps33
  go_wp2
  go_loop [1] (fun t => ∃ k : Nat, t = .int .i64 (k : Int) ∧ i ≤ k ∧ k ≤ s.size ∧ Run s i k) (fun t => s.size - (intOf t).toNat)
  case atStart => exact ⟨i, rfl, Nat.le_refl _, hi, Run.nil s i⟩
  case round =>
    obtain ⟨k, rfl, hik, hk, hr⟩ := hrel
    have HR := hide hr
    clear hr
    by_cases hlt : k < s.size
    · have HB := hide (J.B_at s k hlt)
      by_cases h1 : 48 ≤ (s[k].toNat : Int)
      · by_cases h2 : (s[k].toNat : Int) ≤ 57
        · have HO := hide (ord_digit s[k].toNat (by omega) (by omega))
          go_wp2
          go_round
          case rel => exact ⟨k + 1, by go_num, by omega, by omega, HR.out.snoc (by rw [HB.out]; exact HO.out)⟩
          case measure => simp [intOf]; omega
        · go_wp2
          go_ret
          exact ⟨⟨k, rfl, hik, hk, HR.out⟩, rfl⟩
      · go_wp2
        go_ret
        exact ⟨⟨k, rfl, hik, hk, HR.out⟩, rfl⟩
    · go_wp2
      go_ret
      exact ⟨⟨k, rfl, hik, hk, HR.out⟩, rfl⟩

end Go.Proofs.Qxb6601857a
