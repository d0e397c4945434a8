/-
  THE WALKS of seat b6602103a, part 1: the measures of size.
-/
import Derived.Test.Qxb6602103aRows
import Derived.Test.Qxb6602103aShelf
import Derived.Test.Qxb6602103aPlain
import Derived.WalkKit
import Derived.Deep.DeepCutAuto
import Derived.Deep.QuietTactic
import Derived.BigQuiet
import Derived.WalkLawsBesides
namespace Go.Proofs.Qxb6602103a
open Go.RowKit

theorem hide {p : Prop} (h : p) : Hid p := h
theorem ret_int {k : IntKind} {a b : Int} (h : a = b) : Ending.returned (.int k a) = .returned (.int k b) := by rw [h]
theorem ret_bool {a b : Bool} (h : a = b) : Ending.returned (.bool a) = .returned (.bool b) := by rw [h]

/-- A slice of n one-cell elements, the k-th holding f k. -/
def Sl (w : World) (a : Option Addr) (n : Nat) (f : Nat → Value) : Prop :=
  n = 0 ∨ ∃ b off, a = some ⟨b, off, none⟩ ∧ b < w.heap.size ∧ ∀ k, k < n → w.cell? ⟨b, off + k, none⟩ = some (f k)
theorem Sl.below {w w' : World} {a : Option Addr} {n : Nat} {f : Nat → Value} (h : Sl w a n f) (hb : Below w.heap.size w w') : Sl w' a n f := by
  rcases h with h | ⟨b, off, rfl, hlt, hc⟩
  · exact Or.inl h
  · exact Or.inr ⟨b, off, rfl, Nat.lt_of_lt_of_le hlt hb.size, fun k hk => (hb.cell (p := ⟨b, off + k, none⟩) hlt).trans (hc k hk)⟩
theorem Sl.drewN {w : World} {a : Option Addr} {n : Nat} {f : Nat → Value} (h : Sl w a n f) (q : Nat) : Sl (w.drewN q) a n f := h

set_option maxRecDepth 100000 in
set_option maxHeartbeats 400000 in
theorem strsBytes_any (a : Option Addr) (n cap : Nat) (t : Nat → ByteArray) (w : World) (hn : n ≤ 9223372036854775807) (h : Sl w a n (fun k => .string (t k))) :
    Calls Try.prog 32 #[.slice a n cap] w fun e w' => (∃ x : Int, e = .returned (.int .i64 x)) ∧ w' = w := by
  rcases h with rfl | ⟨b, off, rfl, hlt, hc⟩
  · go_enter Try.func32, Try.ntmps32
    go_wp2
    refine wp_loop_rounds 1 ?_
    rw [rounds_succ]
    go_wp2
    go_ret
    exact ⟨⟨_, rfl⟩, rfl⟩
  · have HC := hide hc
    clear hc
    go_enter Try.func32, Try.ntmps32
    go_wp2
    go_loop [3, 4] (fun y i => ∃ (x : Int) (k : Nat), y = .int .i64 x ∧ i = .int .i64 (k : Int) ∧ k ≤ n) (fun _ i => n - (intOf i).toNat)
    case atStart => exact ⟨_, 0, rfl, rfl, Nat.zero_le _⟩
    case round =>
      obtain ⟨x, k, rfl, rfl, hk⟩ := hrel
      by_cases hkn : k < n
      · have hcell := HC.out k hkn
        go_wp2
        all_goals first | (go_round; (case rel => exact ⟨_, k + 1, rfl, by go_num, by omega⟩); (case measure => simp [intOf]; omega)) | (go_ret; exact ⟨⟨_, rfl⟩, rfl⟩)
      · go_wp2
        go_ret
        exact ⟨⟨_, rfl⟩, rfl⟩

def SomeBool (e : Ending) : Prop := ∃ b : Bool, e = .returned (.bool b)
theorem someBool (b : Bool) : SomeBool (.returned (.bool b)) := ⟨b, rfl⟩
set_option maxRecDepth 100000 in
set_option maxHeartbeats 1000000 in
theorem tooBig_any (a1 a2 a3 : Option Addr) (n1 n2 n3 c1 c2 c3 : Nat) (t1 t2 : Nat → ByteArray) (m : ByteArray) (x : Int) (w : World) (hn1 : n1 ≤ 9223372036854775807) (hn2 : n2 ≤ 9223372036854775807)
    (h1 : Sl w a1 n1 (fun k => .string (t1 k))) (h2 : Sl w a2 n2 (fun k => .string (t2 k))) :
    Calls Try.prog 11 #[.slice a1 n1 c1, .slice a2 n2 c2, .slice a3 n3 c3, .string m, .int .i64 x] w fun e w' => SomeBool e ∧ w' = w := by
  have HC1 := fun W (h : Sl W a1 n1 (fun k => .string (t1 k))) => hide (strsBytes_any a1 n1 c1 t1 W hn1 h)
  have HC2 := fun W (h : Sl W a2 n2 (fun k => .string (t2 k))) => hide (strsBytes_any a2 n2 c2 t2 W hn2 h)
  have H1 := hide h1
  have H2 := hide h2
  clear h1 h2
  go_enter Try.func11, Try.ntmps11
  go_wp2_with fail
  all_goals first
    | (go_ret; exact ⟨someBool _, rfl⟩)
    | (refine (HC1 _ H1.out).out.mono ?_; rintro e w' ⟨⟨x1, rfl⟩, rfl⟩; go_wp2_with fail)
  all_goals first
    | (go_ret; exact ⟨someBool _, rfl⟩)
    | (refine (HC2 _ H2.out).out.mono ?_; rintro e w' ⟨⟨x2, rfl⟩, rfl⟩; go_wp2_with fail)
  all_goals (go_ret; exact ⟨someBool _, rfl⟩)

/-- What the first measure answers: where true, the lengths are small. -/
def Small (n1 n2 n3 l : Nat) (e : Ending) : Prop := e = .returned (.bool false) ∨ (e = .returned (.bool true) ∧ n1 ≤ 1048576 ∧ n2 ≤ 1048576 ∧ n3 ≤ 1048576 ∧ l ≤ 1048576)
theorem small_no (n1 n2 n3 l : Nat) : Small n1 n2 n3 l (.returned (.bool false)) := Or.inl rfl

set_option maxRecDepth 100000 in
set_option maxHeartbeats 2000000 in
theorem bytes_any (a1 a2 a3 : Option Addr) (n1 n2 n3 c1 c2 c3 : Nat) (t1 t2 : Nat → ByteArray) (m : ByteArray) (w : World) (hn1 : n1 ≤ 9223372036854775807) (hn2 : n2 ≤ 9223372036854775807) (hn3 : n3 ≤ 9223372036854775807) (hm : m.size ≤ 9223372036854775807)
    (h1 : Sl w a1 n1 (fun k => .string (t1 k))) (h2 : Sl w a2 n2 (fun k => .string (t2 k))) :
    Calls Try.prog 10 #[.slice a1 n1 c1, .slice a2 n2 c2, .slice a3 n3 c3, .string m] w fun e w' => Small n1 n2 n3 m.size e ∧ w' = w := by
  by_cases g1 : n1 ≤ 1048576
  · have b1 : decide (1048576 < (n1 : Int)) = false := by simp; omega
    have H1 := hide h1
    have H2 := hide h2
    clear h1 h2
    go_enter Try.func10, Try.ntmps10
    go_wp2
    go_loop [9, 10] (fun y i => ∃ (x : Int) (k : Nat), y = .int .i64 x ∧ i = .int .i64 (k : Int) ∧ k ≤ n1 ∧ 0 ≤ x ∧ x ≤ 1048576) (fun _ i => n1 - (intOf i).toNat)
    case atStart => exact ⟨_, 0, rfl, rfl, Nat.zero_le _, by omega, by omega⟩
    case round =>
      obtain ⟨x, k, rfl, rfl, hk, hx0, hx1⟩ := hrel
      by_cases hkn : k < n1
      · rcases H1.out with h0 | ⟨b, off, rfl, hlt, hc⟩
        · omega
        · have hcell := hc k hkn
          clear hc
          go_wp2
          all_goals first | (go_round; (case rel => exact ⟨_, k + 1, rfl, by go_num, by omega, by omega, by omega⟩); (case measure => simp [intOf]; omega)) | (go_ret; exact ⟨small_no _ _ _ _, rfl⟩)
      · by_cases g2 : n2 ≤ 1048576
        · by_cases e2 : x + n2 ≤ 1048576
          · have b2 : decide (1048576 < (n2 : Int)) = false := by simp; omega
            have b2' : decide (1048576 < x + (n2 : Int)) = false := by simp; omega
            go_wp2
            go_loop [9, 11] (fun y i => ∃ (x : Int) (k : Nat), y = .int .i64 x ∧ i = .int .i64 (k : Int) ∧ k ≤ n2 ∧ 0 ≤ x ∧ x ≤ 1048576) (fun _ i => n2 - (intOf i).toNat)
            case atStart => exact ⟨_, 0, rfl, rfl, Nat.zero_le _, by omega, by omega⟩
            case round =>
              obtain ⟨x, k, rfl, rfl, hk, hx0, hx1⟩ := hrel
              by_cases hkn : k < n2
              · rcases H2.out with h0 | ⟨b, off, rfl, hlt, hc⟩
                · omega
                · have hcell := hc k hkn
                  clear hc
                  go_wp2
                  all_goals first | (go_round; (case rel => exact ⟨_, k + 1, rfl, by go_num, by omega, by omega, by omega⟩); (case measure => simp [intOf]; omega)) | (go_ret; exact ⟨small_no _ _ _ _, rfl⟩)
              · by_cases g3 : n3 ≤ 1048576
                · by_cases e3 : x + n3 ≤ 1048576
                  · by_cases g4 : m.size ≤ 1048576
                    · by_cases e4 : x + n3 + m.size ≤ 1048576
                      · have HS : Hid (Small n1 n2 n3 m.size (.returned (.bool true))) := Or.inr ⟨rfl, g1, g2, g3, g4⟩
                        go_wp2
                        go_ret
                        exact ⟨HS.out, rfl⟩
                      · go_wp2
                        go_ret
                        exact ⟨small_no _ _ _ _, rfl⟩
                    · go_wp2
                      go_ret
                      exact ⟨small_no _ _ _ _, rfl⟩
                  · go_wp2
                    go_ret
                    exact ⟨small_no _ _ _ _, rfl⟩
                · go_wp2
                  go_ret
                  exact ⟨small_no _ _ _ _, rfl⟩
          · go_wp2
            go_ret
            exact ⟨small_no _ _ _ _, rfl⟩
        · go_wp2
          go_ret
          exact ⟨small_no _ _ _ _, rfl⟩
  · go_enter Try.func10, Try.ntmps10
    go_wp2
    go_ret
    exact ⟨small_no _ _ _ _, rfl⟩

set_option maxRecDepth 100000 in
set_option maxHeartbeats 2000000 in
theorem bytes2_any (a1 a2 a3 : Option Addr) (n1 n2 n3 c1 c2 c3 : Nat) (t1 t2 : Nat → ByteArray) (m : ByteArray) (q : Nat) (w : World) (hn1 : n1 ≤ 9223372036854775807) (hn2 : n2 ≤ 9223372036854775807) (hn3 : n3 ≤ 9223372036854775807) (hm : m.size ≤ 9223372036854775807)
    (h1 : Sl w a1 n1 (fun k => .string (t1 k))) (h2 : Sl w a2 n2 (fun k => .string (t2 k))) :
    Calls Try.prog 17 #[.slice a1 n1 c1, .slice a2 n2 c2, .slice a3 n3 c3, .string m, .float .f64 q] w fun e w' => Small n1 n2 n3 m.size e ∧ w' = w := by
  by_cases g1 : n1 ≤ 1048576
  · have b1 : decide (1048576 < (n1 : Int)) = false := by simp; omega
    have H1 := hide h1
    have H2 := hide h2
    clear h1 h2
    go_enter Try.func17, Try.ntmps17
    go_wp2
    go_loop [11, 12] (fun y i => ∃ (x : Int) (k : Nat), y = .int .i64 x ∧ i = .int .i64 (k : Int) ∧ k ≤ n1 ∧ 0 ≤ x ∧ x ≤ 1048576) (fun _ i => n1 - (intOf i).toNat)
    case atStart => exact ⟨_, 0, rfl, rfl, Nat.zero_le _, by omega, by omega⟩
    case round =>
      obtain ⟨x, k, rfl, rfl, hk, hx0, hx1⟩ := hrel
      by_cases hkn : k < n1
      · rcases H1.out with h0 | ⟨b, off, rfl, hlt, hc⟩
        · omega
        · have hcell := hc k hkn
          clear hc
          go_wp2
          all_goals first | (go_round; (case rel => exact ⟨_, k + 1, rfl, by go_num, by omega, by omega, by omega⟩); (case measure => simp [intOf]; omega)) | (go_ret; exact ⟨small_no _ _ _ _, rfl⟩)
      · by_cases g2 : n2 ≤ 1048576
        · by_cases e2 : x + n2 ≤ 1048576
          · have b2 : decide (1048576 < (n2 : Int)) = false := by simp; omega
            have b2' : decide (1048576 < x + (n2 : Int)) = false := by simp; omega
            go_wp2
            go_loop [11, 13] (fun y i => ∃ (x : Int) (k : Nat), y = .int .i64 x ∧ i = .int .i64 (k : Int) ∧ k ≤ n2 ∧ 0 ≤ x ∧ x ≤ 1048576) (fun _ i => n2 - (intOf i).toNat)
            case atStart => exact ⟨_, 0, rfl, rfl, Nat.zero_le _, by omega, by omega⟩
            case round =>
              obtain ⟨x, k, rfl, rfl, hk, hx0, hx1⟩ := hrel
              by_cases hkn : k < n2
              · rcases H2.out with h0 | ⟨b, off, rfl, hlt, hc⟩
                · omega
                · have hcell := hc k hkn
                  clear hc
                  go_wp2
                  all_goals first | (go_round; (case rel => exact ⟨_, k + 1, rfl, by go_num, by omega, by omega, by omega⟩); (case measure => simp [intOf]; omega)) | (go_ret; exact ⟨small_no _ _ _ _, rfl⟩)
              · by_cases g3 : n3 ≤ 1048576
                · by_cases e3 : x + n3 ≤ 1048576
                  · by_cases g4 : m.size ≤ 1048576
                    · by_cases e4 : x + n3 + m.size ≤ 1048576
                      · have HS : Hid (Small n1 n2 n3 m.size (.returned (.bool true))) := Or.inr ⟨rfl, g1, g2, g3, g4⟩
                        go_wp2
                        go_ret
                        exact ⟨HS.out, rfl⟩
                      · go_wp2
                        go_ret
                        exact ⟨small_no _ _ _ _, rfl⟩
                    · go_wp2
                      go_ret
                      exact ⟨small_no _ _ _ _, rfl⟩
                  · go_wp2
                    go_ret
                    exact ⟨small_no _ _ _ _, rfl⟩
                · go_wp2
                  go_ret
                  exact ⟨small_no _ _ _ _, rfl⟩
          · go_wp2
            go_ret
            exact ⟨small_no _ _ _ _, rfl⟩
        · go_wp2
          go_ret
          exact ⟨small_no _ _ _ _, rfl⟩
  · go_enter Try.func17, Try.ntmps17
    go_wp2
    go_ret
    exact ⟨small_no _ _ _ _, rfl⟩

end Go.Proofs.Qxb6602103a
