/-
  THE WALKS of seat b6601857a, part 2: jvString.
-/
import Derived.Test.Qxb6601857aWalks1
namespace Go.Proofs.Qxb6601857a
open Go.RowKit

theorem str_u (s : ByteArray) (p : Nat) (h0 : J.B s p = 92) (h1 : p + 6 ≤ s.size) (h : ∀ m, p + 2 ≤ m → m < p + 6 → hexB (J.B s m) = true) : J.strAt s (p + 6) = J.strAt s p := by
  rw [← J.str_esc s p h0, ← J.str_range s 4 (p + 2) (by omega) (fun k a b => hexB_ne _ (h k a (by omega)))]

/-- What jvString answers at i. -/
def StrPost (s : ByteArray) (i : Nat) (w : World) (e : Ending) (w' : World) : Prop :=
  (e = .returned (.tuple #[.int .i64 0, .bool false]) ∨ ∃ j : Nat, e = .returned (.tuple #[.int .i64 (j : Int), .bool true]) ∧ J.B s i = 34 ∧ J.strAt s (i + 1) = some j) ∧ w' = w

set_option maxRecDepth 100000 in
set_option maxHeartbeats 1000000 in
theorem jvString_any (s : ByteArray) (i : Nat) (w : World) (hs : s.size ≤ 1048576) (hi : i < s.size) :
    Calls Try.prog 25 #[.string s, .int .i64 (i : Int)] w fun e w' => StrPost s i w e w' := by
  unfold StrPost
  have HBi := hide (J.B_at s i hi)
  have hd : decide (s.size ≤ i) = false := by simp; omega
  cases hq : ((s[i].toNat : Int) != 34) with
  | true =>
    go_enter Try.func25, Try.ntmps25
    go_wp2
    go_ret2
    exact ⟨Or.inl rfl, rfl⟩
  | false =>
    have HQ : Hid (J.B s i = 34) := by show _ = _; rw [HBi.out]; simp at hq; omega
    go_enter Try.func25, Try.ntmps25
    go_wp2
    go_loop [1] (fun t => ∃ p : Nat, t = .int .i64 (p : Int) ∧ i + 1 ≤ p ∧ p ≤ s.size ∧ J.strAt s p = J.strAt s (i + 1)) (fun t => s.size - (intOf t).toNat)
    case atStart => exact ⟨i + 1, by go_num, Nat.le_refl _, hi, rfl⟩
    case round =>
      obtain ⟨p, rfl, hip, hp, hr⟩ := hrel
      have HR := hide hr
      clear hr
      by_cases hlt : p < s.size
      · have HB := hide (J.B_at s p hlt)
        cases h34 : ((s[p].toNat : Int) == 34) with
        | true =>
          have HF : Hid (J.strAt s (i + 1) = some (p + 1)) := by show _ = _; rw [← HR.out]; exact J.str_quote s p (by rw [HB.out]; simp at h34; omega)
          go_wp2
          go_ret2
          exact ⟨Or.inr ⟨p + 1, by go_num, HQ.out, HF.out⟩, rfl⟩
        | false =>
          by_cases h32 : (s[p].toNat : Int) < 32
          · go_wp2
            go_ret2
            exact ⟨Or.inl rfl, rfl⟩
          · cases h92 : ((s[p].toNat : Int) != 92) with
            | true =>
              have HF : Hid (J.strAt s (p + 1) = J.strAt s (i + 1)) := by
                show _ = _
                rw [← HR.out]
                exact J.str_char s p (by rw [HB.out]; simp at h34; omega) (by rw [HB.out]; simp at h92; omega) hlt
              go_wp2
              go_round
              case rel => exact ⟨p + 1, by go_num, by omega, by omega, HF.out⟩
              case measure => simp [intOf]; omega
            | false =>
              have H92 : Hid (J.B s p = 92) := by show _ = _; rw [HB.out]; simp at h92; omega
              by_cases h1 : p + 1 < s.size
              · have hd1 : decide ((s.size : Int) ≤ (p : Int) + 1) = false := by simp; omega
                cases hu : ((s[p + 1].toNat : Int) == 117) with
                | true =>
                  by_cases h6 : p + 6 ≤ s.size
                  · have hd6 : decide ((s.size : Int) < (p : Int) + 6) = false := by simp; omega
                    go_wp2
                    go_loop [8] (fun t => ∃ q : Nat, t = .int .i64 (q : Int) ∧ p + 2 ≤ q ∧ q ≤ p + 6 ∧ ∀ m, p + 2 ≤ m → m < q → hexB (J.B s m) = true) (fun t => p + 6 - (intOf t).toNat)
                    case atStart => exact ⟨p + 2, by go_num, Nat.le_refl _, by omega, fun m a b => by omega⟩
                    case round =>
                      obtain ⟨q, rfl, hq1, hq2, hr2⟩ := hrel
                      have HR2 := hide hr2
                      clear hr2
                      by_cases hq6 : q < p + 6
                      · have hqs : q < s.size := by omega
                        have HBq := hide (J.B_at s q hqs)
                        cases hx : hexB s[q].toNat with
                        | true =>
                          have HX := hide hx
                          go_wp2_with (go_at_call 32; refine (jvIsHex_any _ _).mono ?_; rintro e w' ⟨rfl, rfl⟩)
                          go_round
                          case rel => exact ⟨q + 1, by go_num, by omega, by omega, fun m a b => by
                            by_cases hm : m = q
                            · rw [hm, HBq.out]; exact HX.out
                            · exact HR2.out m a (by omega)⟩
                          case measure => simp [intOf]; omega
                        | false =>
                          go_wp2_with (go_at_call 32; refine (jvIsHex_any _ _).mono ?_; rintro e w' ⟨rfl, rfl⟩)
                          go_ret2
                          exact ⟨Or.inl rfl, rfl⟩
                      · have hqe : q = p + 6 := by omega
                        have HF : Hid (J.strAt s (p + 6) = J.strAt s (i + 1)) := by
                          show _ = _
                          rw [← HR.out]
                          exact str_u s p H92.out h6 (fun m a b => HR2.out m a (by omega))
                        clear hqe
                        go_wp2
                        go_round
                        case rel => exact ⟨p + 6, by go_num, by omega, by omega, HF.out⟩
                        case measure => simp [intOf]; omega
                  · go_wp2
                    go_ret2
                    exact ⟨Or.inl rfl, rfl⟩
                | false =>
                  have HF : Hid (J.strAt s (p + 2) = J.strAt s (i + 1)) := by
                    show _ = _
                    rw [← HR.out]
                    exact J.str_esc s p H92.out
                  go_wp2
                  all_goals first | (go_round; (case rel => exact ⟨p + 2, by go_num, by omega, by omega, HF.out⟩); (case measure => simp [intOf]; omega)) | (go_ret2; exact ⟨Or.inl rfl, rfl⟩)
              · go_wp2
                go_ret2
                exact ⟨Or.inl rfl, rfl⟩
      · go_wp2
        go_ret2
        exact ⟨Or.inl rfl, rfl⟩

end Go.Proofs.Qxb6601857a
