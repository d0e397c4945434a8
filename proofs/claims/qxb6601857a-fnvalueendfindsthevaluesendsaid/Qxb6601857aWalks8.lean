/-
  THE WALKS of seat b6601857a, part 8: jvObject, over a contract of jvValue at the places behind.
-/
import Derived.Test.Qxb6601857aWalks7
namespace Go.Proofs.Qxb6601857a
open Go.RowKit

set_option maxRecDepth 100000 in
set_option maxHeartbeats 2000000 in
theorem jvObject_of (s : ByteArray) (b i : Nat) (z : Nat → Int) (w : World) (hs : s.size ≤ 1048576) (hi : J.B s i = 123) (hA : Arr w b s.size z) (ih : Later s b i) :
    Calls Try.prog 26 #[.string s, .int .i64 (i : Int), .slice (some ⟨b, 0, none⟩) s.size s.size] w fun e w' => ContPost s i b z w e w' := by
  have hil := J.B_in s i (by omega)
  have HI := hide hi
  have HA := hide hA
  clear hi hA
  unfold ContPost
  go_enter Try.func26, Try.ntmps26
  go_wp2_with fail
  refine (skip_at s i _ hs hil).mono ?_
  rintro e w' ⟨⟨p, rfl, hp1, hp2, HIN⟩, rfl⟩
  by_cases hcl : ∃ h : p < s.size, ((s[p].toNat : Int) == 125) = true
  · obtain ⟨hlt, h125⟩ := hcl
    have HW : Hid (J.Weak s i (p + 1)) := J.weak_cont s i p (Or.inl HI.out) HIN.out (by omega) (by rw [J.B_at s p hlt]; simp at h125; omega)
    go_wp2_with fail
    go_ret2
    exact ⟨Below.refl _ _, Or.inr ⟨p + 1, z, by go_num, HA.out, HW.out, fun k => Or.inl rfl⟩⟩
  · by_cases hlt : p < s.size
    · have h125 : ((s[p].toNat : Int) == 125) = false := by
        cases hx : ((s[p].toNat : Int) == 125) with
        | false => rfl
        | true => exact absurd ⟨hlt, hx⟩ hcl
      clear hcl
      go_wp2_with fail
      go_loopw [1] (fun x wr => ∃ (p : Nat) (z1 : Nat → Int), x = .int .i64 (p : Int) ∧ i < p ∧ p ≤ s.size ∧ Hid (J.Into s (i + 1) p) ∧ Hid (Arr wr b s.size z1) ∧ Hid (Below b w' wr) ∧ Hid (∀ k, z1 k = z k ∨ J.Good s k (z1 k))) (fun x _ => s.size - (intOf x).toNat)
      case atStart => exact ⟨p, z, rfl, by omega, hp2, HIN, HA, Below.refl _ _, fun k => Or.inl rfl⟩
      case round =>
        obtain ⟨p, z1, rfl, hip, hp, HIN, HA, HB, HZ⟩ := hrel
        by_cases hlt : p < s.size
        · go_wp2_with fail
          refine (jvString_any s p _ hs hlt).mono ?_
          rintro e w1 ⟨rfl | ⟨ke, rfl, hk34, hkstr⟩, rfl⟩
          · go_wp2_with fail
            go_ret2
            exact ⟨HB.out, Or.inl rfl⟩
          · have hkl := J.str_lt hkstr
            have HKE := hide (J.end_str s p ke hk34 hkstr)
            have HKI := hide (J.into_str s p ke hk34 hkstr)
            have HA1 := hide (HA.out.set p hlt (ke : Int))
            have HB1 : Hid (Below b w' (w1.setCell ⟨b, p, none⟩ (.int .i64 (ke : Int)))) := HB.out.setCell (Nat.le_refl _) _
            have HZ1 : Hid (∀ k, put z1 p (ke : Int) k = z k ∨ J.Good s k (put z1 p (ke : Int) k)) := by
              refine comb s z z1 _ p ke HZ.out (fun k hk => Or.inl (put_other z1 p k _ hk)) (put_same z1 p _) HKE.out
            have hcell := (HA.out p hlt).1
            have hfr := (HA.out p hlt).2
            clear hk34 hkstr
            go_wp2_with fail
            refine (skip_behind s ke _ hs hkl.2).mono ?_
            rintro e w3 ⟨⟨q, rfl, hq1, hq2, HKQ, _⟩, rfl⟩
            clear hcell hfr
            by_cases hql : q < s.size
            · have HBq := hide (J.B_at s q hql)
              have hqd : decide ((s.size : Int) ≤ (q : Int)) = false := by simp; omega
              cases h58 : ((s[q].toNat : Int) != 58) with
              | true =>
                go_wp2_with fail
                go_ret2
                exact ⟨HB1.out, Or.inl rfl⟩
              | false =>
                have HN : Hid (J.Into s (i + 1) (q + 1)) := HIN.out.trans (HKI.out.trans (HKQ.out.trans (J.into_char s q hql (by rw [HBq.out]; simp at h58; omega) (by rw [HBq.out]; simp at h58; omega) (by rw [HBq.out]; simp at h58; omega) (by rw [HBq.out]; simp at h58; omega) (by rw [HBq.out]; simp at h58; omega))))
                go_wp2_with fail
                refine (skip_at s q _ hs hql).mono ?_
                rintro e w4 ⟨⟨r, rfl, hr1, hr2, HQR⟩, rfl⟩
                go_wp2_with fail
                refine (ih r (put z1 p (ke : Int)) _ (by omega) hr2 HA1.out).mono ?_
                rintro e w5 ⟨hbel, rfl | ⟨j, z2, rfl, hA2, hW, hz, hk⟩⟩
                · have HB2 := hide (HB1.out.trans hbel)
                  clear hbel
                  go_wp2_with fail
                  go_ret2
                  exact ⟨HB2.out, Or.inl rfl⟩
                · have HB2 := hide (HB1.out.trans hbel)
                  have HA2 := hide hA2
                  have HW := hide hW
                  have HZ2 := hide (comb s z _ z2 r j HZ1.out hk hz)
                  have hj1 := hW.1
                  have hj2 := hW.2.1
                  clear hbel hA2 hW hk hz
                  go_wp2_with fail
                  refine (skip_behind s j _ hs hj2).mono ?_
                  rintro e w6 ⟨⟨q2, rfl, hq21, hq22, HJQ, HD⟩, rfl⟩
                  by_cases hql2 : q2 < s.size
                  · have HBq2 := hide (J.B_at s q2 hql2)
                    cases h125 : ((s[q2].toNat : Int) == 125) with
                    | true =>
                      have HF : Hid (J.Weak s i (q2 + 1)) := J.weak_cont s i q2 (Or.inl HI.out) (HN.out.trans (HQR.out.trans (HW.out.2.2.1.trans HJQ.out))) (by omega) (by rw [HBq2.out]; simp at h125; omega)
                      have HE : Hid (J.End s r j) := HW.out.2.2.2 (HD.out (Or.inr (by rw [HBq2.out]; exact delim_125 _ h125)))
                      go_wp2_with fail
                      go_ret2
                      exact ⟨HB2.out, Or.inr ⟨q2 + 1, z2, by go_num, HA2.out, HF.out, HZ2.out HE.out⟩⟩
                    | false =>
                      cases h44 : ((s[q2].toNat : Int) != 44) with
                      | true =>
                        go_wp2_with fail
                        go_ret2
                        exact ⟨HB2.out, Or.inl rfl⟩
                      | false =>
                        have HE : Hid (J.End s r j) := HW.out.2.2.2 (HD.out (Or.inr (by rw [HBq2.out]; exact delim_44 _ h44)))
                        have HN2 : Hid (J.Into s (i + 1) (q2 + 1)) := HN.out.trans (HQR.out.trans (HW.out.2.2.1.trans (HJQ.out.trans (J.into_char s q2 hql2 (by rw [HBq2.out]; simp at h44; omega) (by rw [HBq2.out]; simp at h44; omega) (by rw [HBq2.out]; simp at h44; omega) (by rw [HBq2.out]; simp at h44; omega) (by rw [HBq2.out]; simp at h44; omega)))))
                        go_wp2_with fail
                        refine (skip_at s q2 _ hs hql2).mono ?_
                        rintro e w7 ⟨⟨r2, rfl, hr21, hr22, HQR2⟩, rfl⟩
                        go_wp2_with fail
                        go_roundw
                        case rel => exact ⟨r2, z2, rfl, by omega, hr22, HN2.out.trans HQR2.out, HA2, HB2, HZ2.out HE.out⟩
                        case measure => simp [intOf]; omega
                  · go_wp2_with fail
                    go_ret2
                    exact ⟨HB2.out, Or.inl rfl⟩
            · go_wp2_with fail
              go_ret2
              exact ⟨HB1.out, Or.inl rfl⟩
        · go_wp2_with fail
          go_ret2
          exact ⟨HB.out, Or.inl rfl⟩
    · go_wp2_with fail
      refine wp_loop_rounds 1 ?_
      rw [rounds_succ]
      go_wp2_with fail
      go_ret2
      exact ⟨Below.refl _ _, Or.inl rfl⟩

end Go.Proofs.Qxb6601857a
