/-
  THE PROOF OF 'Rows.FnSkipSpaceAndCommentsShiftInvariantSaid': the frame is the kit's shell, with the wrap that keeps the world's shape.
-/
import Derived.Test.Qxb6601642aRows
import Derived.Test.Qxb6601642aWalks
import Derived.WalkKit
import Derived.ProofKit
import Derived.OpenShut
import Derived.ShutString
import Derived.HandedShaped
namespace Go.Proofs.Qxb6601642a.fnSkipSpaceAndCommentsShiftInvariant
open Go.ChangeShapes Go.WideShapes Go.ChangeAt Go.RowKit
open Go.ChangeMaps (open_string shut_string)
set_option linter.unusedVariables false

theorem own : ownKnob Try.prog.godebug = none := by kernel_rfl

theorem zz_any (s : ByteArray) (i : Nat) (w : World) (hsh : w.ShapedOpen Try.prog) (hs : s.size ≤ 1048576) (hi : (i : Int) ≤ 9223372036854775807) :
    Calls Try.prog 9 #[.string s, .int .i64 (i : Int)] w fun e w' => e = .returned (.int .i64 (Skip.skipAt s.data.toList i)) ∧ w' = w := by
  go_enter Try.func9, Try.ntmps9
  go_wp2_with (go_at_call 17; refine (skip_any _ _ _ hsh hs hi).mono ?_; rintro e w' ⟨rfl, rfl⟩)
  go_ret
  exact ⟨rfl, rfl⟩

theorem bytes_yes (p s : ByteArray) (i : Int) (w : World) (hs : p.size + s.size ≤ 1048576) :
    Calls Try.prog 12 #[.string p, .string s, .int .i64 i] w fun e w' => e = .returned (.bool true) ∧ w' = w := by
  have h1 : p.size ≤ 1048576 := by omega
  have h2 : s.size ≤ 1048576 := by omega
  go_enter Try.func12, Try.ntmps12
  go_wp2
  go_ret
  exact ⟨rfl, rfl⟩

theorem bytes_no (p s : ByteArray) (i : Int) (w : World) (hp : p.size ≤ 9223372036854775807) (h' : s.size ≤ 9223372036854775807) (hs : ¬ p.size + s.size ≤ 1048576) :
    Calls Try.prog 12 #[.string p, .string s, .int .i64 i] w fun e w' => e = .returned (.bool false) ∧ w' = w := by
  by_cases h1 : p.size ≤ 1048576
  · by_cases h2 : s.size ≤ 1048576
    · go_enter Try.func12, Try.ntmps12
      go_wp2
      go_ret
      exact ⟨rfl, rfl⟩
    · go_enter Try.func12, Try.ntmps12
      go_wp2
      go_ret
      exact ⟨rfl, rfl⟩
  · go_enter Try.func12, Try.ntmps12
    go_wp2
    go_ret
    exact ⟨rfl, rfl⟩

set_option maxHeartbeats 400000 in
theorem walk (a0 : ByteArray) (a1 : ByteArray) (a2 : Int) (w0 : a0.size ≤ maxLen) (w1 : a1.size ≤ maxLen) (w2 : (Lit.int .i64 a2).wf = true) (w : World) (hsh : w.ShapedOpen Try.prog) :
    Calls Try.prog 5 #[.string a0, .string a1, .int .i64 a2] w fun e w' => e = .returned (.bool true) ∧ Grown w w' := by
  unfold maxLen at w0 w1
  by_cases hs : a0.size + a1.size ≤ 1048576
  · have hs0 : a0.size ≤ 1048576 := by omega
    have hs1 : a1.size ≤ 1048576 := by omega
    have hb := bounds_i64 w2
    by_cases h1 : 0 ≤ a2 ∧ a2 ≤ 9223372036854775807 - (a0.size : Int)
    · obtain ⟨hp, hq⟩ := h1
      obtain ⟨i, rfl⟩ := Int.eq_ofNat_of_zero_le hp
      have hsf := Skip.skipAt_shift a0.data.toList a1.data.toList i
      have hbd := Skip.skipAt_bd a1.data.toList i
      rw [← Lib.size_eq] at hsf hbd
      have hap : (a0 ++ a1).data.toList = a0.data.toList ++ a1.data.toList := by simp
      rw [← hap] at hsf
      have hz0 := zz_any a1 i w hsh hs1 hb.2
      have hz1 := zz_any (a0 ++ a1) (a0.size + i) w hsh (by simpa using hs) (by omega)
      generalize Skip.skipAt a1.data.toList i = r at hsf hbd hz0
      generalize Skip.skipAt (a0 ++ a1).data.toList (a0.size + i) = r2 at hsf hz1
      rw [show ((a0.size + i : Nat) : Int) = (a0.size : Int) + (i : Int) from by omega] at hz1
      have HZ0 := hide hz0
      have HZ1 := hide hz1
      clear hz0 hz1 hap
      by_cases hm : r = -1
      · rw [if_pos hm] at hsf
        subst hm hsf
        clear hbd
        go_enter Try.func5, Try.ntmps5
        go_wp2_with (go_at_call 12; refine (bytes_yes _ _ _ _ hs).mono ?_; rintro e w' ⟨rfl, rfl⟩)
        refine HZ0.out.mono ?_
        rintro e w' ⟨rfl, rfl⟩
        go_wp2_with fail
        refine HZ1.out.mono ?_
        rintro e w' ⟨rfl, rfl⟩
        go_wp2_with fail
        go_ret
        exact ⟨rfl, Grown.refl _⟩
      · rw [if_neg hm] at hsf
        subst hsf
        have hm' : (r == -1) = false := by rw [beq_eq_false_iff_ne]; exact hm
        have hr0 : 0 ≤ r := by omega
        have hr1 : r + a0.size ≤ 9223372036854775807 := by omega
        clear hbd hm
        go_enter Try.func5, Try.ntmps5
        go_wp2_with (go_at_call 12; refine (bytes_yes _ _ _ _ hs).mono ?_; rintro e w' ⟨rfl, rfl⟩)
        refine HZ0.out.mono ?_
        rintro e w' ⟨rfl, rfl⟩
        go_wp2_with fail
        refine HZ1.out.mono ?_
        rintro e w' ⟨rfl, rfl⟩
        go_wp2_with fail
        go_ret
        exact ⟨by simp, Grown.refl _⟩
    · by_cases hn : a2 < 0
      · go_enter Try.func5, Try.ntmps5
        go_wp2_with (go_at_call 12; refine (bytes_yes _ _ _ _ hs).mono ?_; rintro e w' ⟨rfl, rfl⟩)
        go_ret
        exact ⟨rfl, Grown.refl _⟩
      · have hq : 9223372036854775807 - (a0.size : Int) < a2 := by omega
        clear h1
        go_enter Try.func5, Try.ntmps5
        go_wp2_with (go_at_call 12; refine (bytes_yes _ _ _ _ hs).mono ?_; rintro e w' ⟨rfl, rfl⟩)
        go_ret
        exact ⟨rfl, Grown.refl _⟩
  · go_enter Try.func5, Try.ntmps5
    go_wp2_with (go_at_call 12; refine (bytes_no _ _ _ _ (by omega) (by omega) hs).mono ?_; rintro e w' ⟨rfl, rfl⟩)
    go_ret
    exact ⟨rfl, Grown.refl _⟩

/-! ### THE ROW's STEP: WRITTEN OUT: LEAVE IT -/
set_option maxRecDepth 100000 in
theorem lifted (os : Os) (started : os.Started) (H : Type) (enc : TypeId × Value → H) :
    ReturnsInHanded {} Try.checked os 5 .any (Rows.fnSkipSpaceAndCommentsShiftInvariantSpec.pre6 enc Try.prog Try.f5 Rows.fnSkipSpaceAndCommentsShiftInvariantRow.domain false) (Rows.fnSkipSpaceAndCommentsShiftInvariantSpec.post enc Try.prog Try.f5 false true false false) := by
  refine returnsInHanded_of_change_shaped (C := Try.checked) own started (by kernel_rfl) Try.func5
    (ChangeSpec.witness6 (enc := enc) (C := Try.checked) false ⟨#[], #[.string ByteArray.empty, .string ByteArray.empty, .int .i64 0], []⟩ 8 (by kernel_rfl) (by kernel_rfl) (by kernel_rfl) (by kernel_rfl)) ?_
  intro W base args ds gs before hval0 hW hcnd _ hsh _
  have hval : ∀ (j : Nat) t v, Try.f5.params[j]? = some t → args[j]? = some v → Value.okWide Try.prog W .any base t v := hval0
  have hW' := hW
  obtain ⟨p, q, hA0, hV, rfl, hfz, hnd⟩ := hW
  have hA : DataW.TrodAll enc Try.prog W 0 (fun _ => true) true Try.f5.params.toList args.toList ds p := hA0
  rw [Try.params5] at hA hval
  obtain ⟨v0, vs0, d0, ds0, p0, q0, hargs, rfl, rfl, h0, r0⟩ := trodAll_cons hA
  obtain ⟨v1, vs1, d1, ds1, p1, q1, rfl, rfl, rfl, h1, r1⟩ := trodAll_cons r0
  obtain ⟨v2, vs2, d2, ds2, p2, q2, rfl, rfl, rfl, h2, r2⟩ := trodAll_cons r1
  obtain ⟨rfl, rfl, rfl⟩ := trodAll_nil r2
  obtain rfl : args = #[v0, v1, v2] := by cases args; simp_all
  obtain ⟨rfl, rfl⟩ := trodVars_none hV
  obtain ⟨a0, rfl, rfl, rfl, w0⟩ := open_string Try.underlying9 (hval 0 9 v0 rfl rfl) h0
  obtain ⟨a1, rfl, rfl, rfl, w1⟩ := open_string Try.underlying9 (hval 1 9 v1 rfl rfl) h1
  obtain ⟨a2, rfl, rfl, rfl, w2⟩ := open_int Try.underlying3 (hval 2 3 v2 rfl rfl) h2
  clear hA0 hval0
  simp only [List.append_nil] at hW'
  refine (walk a0 a1 a2 w0 w1 w2 W hsh).mono fun e W' ⟨he, hg⟩ => ?_
  subst he
  exact ⟨_, rfl, post_of_same (pa := []) (pv := []) hW' (fun _ _ _ => (trodAll_cons_mk (shut_bool Try.underlying4 _) trodAll_mk0)) (fun sp _ => (trodAll_cons_mk (shut_string Try.underlying9 w0) (trodAll_cons_mk (shut_string Try.underlying9 w1) (trodAll_cons_mk (shut_int Try.underlying3 w2) trodAll_mk0)))) (fun _ _ => rfl) rfl
    (hg.frame _) hg.2.1 (ok_one (by kernel_rfl) rfl (okWide_bool_mk Try.underlying4 _))⟩

theorem over : Rows.fnSkipSpaceAndCommentsShiftInvariantRow.holds Try.pinned (OpenSpec.ofChange Rows.fnSkipSpaceAndCommentsShiftInvariantSpec) :=
  OpenClaim.holds_of_wide 5 Try.f5 rfl rfl rfl rfl rfl rfl rfl ⟨rfl, rfl, rfl, rfl, rfl⟩ rfl rfl rfl rfl rfl (by kernel_rfl) Try.func5 (by kernel_rfl)
    (of_decide_eq_true (by kernel_rfl)) (by unfold Func.isWrapper; first | (rw [if_pos (by decide +kernel)]; kernel_rfl) | (rw [if_neg (by decide +kernel)]; exact ⟨rfl, rfl⟩))
    (fun os started H enc _ => lifted os started H enc)

/-- ████ THE STATEMENT ████ -/
theorem proved : Rows.FnSkipSpaceAndCommentsShiftInvariantSaid :=
  over
end Go.Proofs.Qxb6601642a.fnSkipSpaceAndCommentsShiftInvariant
