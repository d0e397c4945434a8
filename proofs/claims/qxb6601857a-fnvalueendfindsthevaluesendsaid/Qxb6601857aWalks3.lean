/-
  THE WALKS of seat b6601857a, part 3: jvNumber.
-/
import Derived.Test.Qxb6601857aWalks1
namespace Go.Proofs.Qxb6601857a
open Go.RowKit

/-- What jvNumber answers at i. -/
def NumPost (s : ByteArray) (i : Nat) (w : World) (e : Ending) (w' : World) : Prop :=
  (e = .returned (.tuple #[.int .i64 0, .bool false]) ∨ ∃ j : Nat, e = .returned (.tuple #[.int .i64 (j : Int), .bool true]) ∧ i < j ∧ j ≤ s.size ∧ Run s i j) ∧ w' = w

theorem run_one (s : ByteArray) (i p : Nat) (n : Nat) (h : Run s i p) (hp : p < s.size) (hn : J.ord n) (he : (s[p].toNat : Int) = n) : Run s i (p + 1) :=
  h.snoc (by rw [J.B_at s p hp, show s[p].toNat = n from by omega]; exact hn)
theorem run_digit (s : ByteArray) (i p : Nat) (h : Run s i p) (hp : p < s.size) (h1 : 48 ≤ (s[p].toNat : Int)) (h2 : (s[p].toNat : Int) ≤ 57) : Run s i (p + 1) :=
  h.snoc (by rw [J.B_at s p hp]; exact ord_digit _ (by omega) (by omega))
theorem ord_45 : J.ord 45 := by unfold J.ord J.delim J.ws; omega
theorem ord_46 : J.ord 46 := by unfold J.ord J.delim J.ws; omega
theorem ord_43 : J.ord 43 := by unfold J.ord J.delim J.ws; omega
theorem ord_101 : J.ord 101 := by unfold J.ord J.delim J.ws; omega
theorem ord_69 : J.ord 69 := by unfold J.ord J.delim J.ws; omega

set_option maxRecDepth 100000 in
set_option maxHeartbeats 2000000 in
theorem jvNumber_any (s : ByteArray) (i : Nat) (w : World) (hs : s.size ≤ 1048576) (hi : i < s.size) :
    Calls Try.prog 29 #[.string s, .int .i64 (i : Int)] w fun e w' => NumPost s i w e w' := by
  unfold NumPost
  go_enter Try.func29, Try.ntmps29
  go_upto_if 17 with fail
  go_cut [1] (fun t wx => ∃ p : Nat, t = .int .i64 (p : Int) ∧ i ≤ p ∧ p ≤ s.size ∧ Hid (Run s i p) ∧ w = wx)
  case first =>
    cases h45 : ((s[i].toNat : Int) == 45) with
    | true =>
      have HF : Hid (Run s i (i + 1)) := run_one s i i 45 (Run.nil s i) hi ord_45 (by simpa using h45)
      go_wp2
      go_meet
      case rel => exact ⟨i + 1, by go_num, by omega, by omega, HF, rfl⟩
    | false =>
      go_wp2
      go_meet
      case rel => exact ⟨i, rfl, by omega, by omega, Run.nil s i, rfl⟩
  case rest =>
  obtain ⟨p, rfl, hip, hp, HR, rfl⟩ := hcut
  by_cases hlt : p < s.size
  · go_upto_if 27 with fail
    go_cut [1] (fun t wx => ∃ p : Nat, t = .int .i64 (p : Int) ∧ i < p ∧ p ≤ s.size ∧ Hid (Run s i p) ∧ w = wx)
    case first =>
      cases h48 : ((s[p].toNat : Int) == 48) with
      | true =>
        have HF : Hid (Run s i (p + 1)) := run_digit s i p HR.out hlt (by simp at h48; omega) (by simp at h48; omega)
        go_wp2
        go_meet
        case rel => exact ⟨p + 1, by go_num, by omega, by omega, HF, rfl⟩
      | false =>
        by_cases h1 : 49 ≤ (s[p].toNat : Int)
        · by_cases h2 : (s[p].toNat : Int) ≤ 57
          · have HF : Hid (Run s i (p + 1)) := run_digit s i p HR.out hlt (by omega) (by omega)
            have hc := jvDigits_any s (p + 1) w hs (by omega)
            rw [show ((p + 1 : Nat) : Int) = (p : Int) + 1 from by omega] at hc
            have HC := hide hc
            clear hc
            go_wp2_with fail
            refine HC.out.mono ?_
            rintro e w' ⟨⟨j, rfl, hj1, hj2, hj3⟩, rfl⟩
            have HJ := hide hj3
            clear hj3
            go_wp2_with fail
            go_meet
            case rel => exact ⟨j, rfl, by omega, by omega, HF.out.trans HJ.out, rfl⟩
          · go_wp2
            go_ret2
            exact ⟨Or.inl rfl, rfl⟩
        · go_wp2
          go_ret2
          exact ⟨Or.inl rfl, rfl⟩
    case rest =>
    obtain ⟨p, rfl, hip, hp, HR, rfl⟩ := hcut
    by_cases hlt : p < s.size
    · go_upto_if 53 with fail
      go_cut [1] (fun t wx => ∃ p : Nat, t = .int .i64 (p : Int) ∧ i < p ∧ p ≤ s.size ∧ Hid (Run s i p) ∧ w = wx)
      case first =>
        cases h46 : ((s[p].toNat : Int) == 46) with
        | true =>
          have HF : Hid (Run s i (p + 1)) := run_one s i p 46 HR.out hlt ord_46 (by simpa using h46)
          have hc := jvDigits_any s (p + 1) w hs (by omega)
          rw [show ((p + 1 : Nat) : Int) = (p : Int) + 1 from by omega] at hc
          have HC := hide hc
          clear hc
          go_wp2_with fail
          refine HC.out.mono ?_
          rintro e w' ⟨⟨j, rfl, hj1, hj2, hj3⟩, rfl⟩
          have HJ := hide hj3
          clear hj3
          cases hje : ((j : Int) == (p : Int) + 1) with
          | true =>
            go_wp2_with fail
            go_ret2
            exact ⟨Or.inl rfl, rfl⟩
          | false =>
            go_wp2_with fail
            go_meet
            case rel => exact ⟨j, rfl, by omega, by omega, HF.out.trans HJ.out, rfl⟩
        | false =>
          go_wp2
          go_meet
          case rel => exact ⟨p, rfl, by omega, by omega, HR, rfl⟩
      case rest =>
      obtain ⟨p, rfl, hip, hp, HR, rfl⟩ := hcut
      by_cases hlt : p < s.size
      · by_cases h101 : (s[p].toNat : Int) = 101 ∨ (s[p].toNat : Int) = 69
        · have HF : Hid (Run s i (p + 1)) := by
            rcases h101 with h | h
            · exact run_one s i p 101 HR.out hlt ord_101 h
            · exact run_one s i p 69 HR.out hlt ord_69 h
          have hx : ((s[p].toNat : Int) == 101 || (s[p].toNat : Int) == 69) = true := by simpa using h101
          rcases h101 with h101 | h101
          all_goals
            by_cases hl1 : p + 1 < s.size
            · by_cases hsg : (s[p + 1].toNat : Int) = 43
              · have HG : Hid (Run s i (p + 1 + 1)) := run_one s i (p + 1) 43 HF.out hl1 ord_43 hsg
                have hc := jvDigits_any s (p + 1 + 1) w hs (by omega)
                rw [show ((p + 1 + 1 : Nat) : Int) = (p : Int) + 1 + 1 from by omega] at hc
                have HC := hide hc
                clear hc
                go_wp2_with fail
                refine HC.out.mono ?_
                rintro e w' ⟨⟨j, rfl, hj1, hj2, hj3⟩, rfl⟩
                have HJ := hide hj3
                clear hj3
                cases hje : ((j : Int) == (p : Int) + 1 + 1) with
                | true =>
                  go_wp2_with fail
                  go_ret2
                  exact ⟨Or.inl rfl, rfl⟩
                | false =>
                  go_wp2_with fail
                  go_ret2
                  exact ⟨Or.inr ⟨j, rfl, by omega, by omega, HG.out.trans HJ.out⟩, rfl⟩
              · by_cases hsh : (s[p + 1].toNat : Int) = 45
                · have HG : Hid (Run s i (p + 1 + 1)) := run_one s i (p + 1) 45 HF.out hl1 ord_45 hsh
                  have hc := jvDigits_any s (p + 1 + 1) w hs (by omega)
                  rw [show ((p + 1 + 1 : Nat) : Int) = (p : Int) + 1 + 1 from by omega] at hc
                  have HC := hide hc
                  clear hc
                  go_wp2_with fail
                  refine HC.out.mono ?_
                  rintro e w' ⟨⟨j, rfl, hj1, hj2, hj3⟩, rfl⟩
                  have HJ := hide hj3
                  clear hj3
                  cases hje : ((j : Int) == (p : Int) + 1 + 1) with
                  | true =>
                    go_wp2_with fail
                    go_ret2
                    exact ⟨Or.inl rfl, rfl⟩
                  | false =>
                    go_wp2_with fail
                    go_ret2
                    exact ⟨Or.inr ⟨j, rfl, by omega, by omega, HG.out.trans HJ.out⟩, rfl⟩
                · have hy1 : ((s[p + 1].toNat : Int) == 43) = false := by simpa using hsg
                  have hy2 : ((s[p + 1].toNat : Int) == 45) = false := by simpa using hsh
                  have hc := jvDigits_any s (p + 1) w hs (by omega)
                  rw [show ((p + 1 : Nat) : Int) = (p : Int) + 1 from by omega] at hc
                  have HC := hide hc
                  clear hc
                  go_wp2_with fail
                  refine HC.out.mono ?_
                  rintro e w' ⟨⟨j, rfl, hj1, hj2, hj3⟩, rfl⟩
                  have HJ := hide hj3
                  clear hj3
                  cases hje : ((j : Int) == (p : Int) + 1) with
                  | true =>
                    go_wp2_with fail
                    go_ret2
                    exact ⟨Or.inl rfl, rfl⟩
                  | false =>
                    go_wp2_with fail
                    go_ret2
                    exact ⟨Or.inr ⟨j, rfl, by omega, by omega, HF.out.trans HJ.out⟩, rfl⟩
            · have hc := jvDigits_any s (p + 1) w hs (by omega)
              rw [show ((p + 1 : Nat) : Int) = (p : Int) + 1 from by omega] at hc
              have HC := hide hc
              clear hc
              go_wp2_with fail
              refine HC.out.mono ?_
              rintro e w' ⟨⟨j, rfl, hj1, hj2, hj3⟩, rfl⟩
              have HJ := hide hj3
              clear hj3
              cases hje : ((j : Int) == (p : Int) + 1) with
              | true =>
                go_wp2_with fail
                go_ret2
                exact ⟨Or.inl rfl, rfl⟩
              | false =>
                go_wp2_with fail
                go_ret2
                exact ⟨Or.inr ⟨j, rfl, by omega, by omega, HF.out.trans HJ.out⟩, rfl⟩
        · have hx1 : ((s[p].toNat : Int) == 101) = false := by simp; omega
          have hx2 : ((s[p].toNat : Int) == 69) = false := by simp; omega
          go_wp2
          go_ret2
          exact ⟨Or.inr ⟨p, rfl, hip, hp, HR.out⟩, rfl⟩
      · go_wp2
        go_ret2
        exact ⟨Or.inr ⟨p, rfl, hip, hp, HR.out⟩, rfl⟩
    · go_wp2
      go_ret2
      exact ⟨Or.inr ⟨p, rfl, hip, hp, HR.out⟩, rfl⟩
  · go_wp2
    go_ret2
    exact ⟨Or.inl rfl, rfl⟩

end Go.Proofs.Qxb6601857a
