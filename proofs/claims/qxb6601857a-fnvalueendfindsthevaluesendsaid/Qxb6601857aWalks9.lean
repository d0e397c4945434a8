/-
  THE WALKS of seat b6601857a, part 9: jvValue, and the recursion.
-/
import Derived.Test.Qxb6601857aWalks8
import Derived.WalkSmall
namespace Go.Proofs.Qxb6601857a
open Go.RowKit

abbrev wTrue : ByteArray := ⟨#[116, 114, 117, 101]⟩
abbrev wFalse : ByteArray := ⟨#[102, 97, 108, 115, 101]⟩
abbrev wNull : ByteArray := ⟨#[110, 117, 108, 108]⟩
theorem ord_letter (n : Nat) (h1 : 97 ≤ n) (h2 : n ≤ 122) : J.ord n := by unfold J.ord J.delim J.ws; omega
theorem wTrue_ord (k : Nat) (h : k < wTrue.size) : J.ord wTrue[k].toNat := by
  have h' : k < 4 := h
  rcases (by omega : k = 0 ∨ k = 1 ∨ k = 2 ∨ k = 3) with rfl | rfl | rfl | rfl <;> exact ord_letter _ (by decide +revert) (by decide +revert)
theorem wFalse_ord (k : Nat) (h : k < wFalse.size) : J.ord wFalse[k].toNat := by
  have h' : k < 5 := h
  rcases (by omega : k = 0 ∨ k = 1 ∨ k = 2 ∨ k = 3 ∨ k = 4) with rfl | rfl | rfl | rfl | rfl <;> exact ord_letter _ (by decide +revert) (by decide +revert)
theorem wNull_ord (k : Nat) (h : k < wNull.size) : J.ord wNull[k].toNat := by
  have h' : k < 4 := h
  rcases (by omega : k = 0 ∨ k = 1 ∨ k = 2 ∨ k = 3) with rfl | rfl | rfl | rfl <;> exact ord_letter _ (by decide +revert) (by decide +revert)

set_option maxRecDepth 100000 in
set_option maxHeartbeats 2000000 in
theorem jvValue_of (s : ByteArray) (b i : Nat) (z : Nat → Int) (w : World) (hs : s.size ≤ 1048576) (hi : i ≤ s.size) (hA : Arr w b s.size z) (ih : Later s b i) :
    Calls Try.prog 22 #[.string s, .int .i64 (i : Int), .slice (some ⟨b, 0, none⟩) s.size s.size] w fun e w' => ValPost s i b z w e w' := by
  have HA := hide hA
  clear hA
  unfold ValPost
  by_cases hi' : i < s.size
  · have hid : decide ((s.size : Int) ≤ (i : Int)) = false := by simp; omega
    go_enter Try.func22, Try.ntmps22
    by_cases h34 : s[i].toNat = 34
    · have n34 : ((s[i].toNat : Int) == 34) = true := by simp; omega
      clear h34
      go_wp2_with fail
      refine (jvString_any s i _ hs hi').mono ?_
      rintro e w1 ⟨rfl | ⟨j, rfl, hk34, hkstr⟩, rfl⟩
      · go_wp2_with fail
        go_ret2
        exact ⟨Below.refl _ _, Or.inl rfl⟩
      · have HW := hide (J.weak_str s i j hk34 hkstr)
        have HB0 := hide (Below.refl b w1)
        clear hk34 hkstr
        have hcell := (HA.out i hi').1
        have hfr := (HA.out i hi').2
        have HA9 := hide (HA.out.set i hi' (j : Int))
        go_wp2_with fail
        go_ret2
        exact ⟨HB0.out.setCell (p := ⟨b, i, none⟩) (Nat.le_refl _) _, Or.inr ⟨j, put z i (j : Int), rfl, HA9.out, HW.out, put_same z i _, fun k hk => by rw [put_other z i k _ hk]; exact Or.inl rfl⟩⟩
    · by_cases h123 : s[i].toNat = 123
      · have h91 : True := trivial
        have n34 : ((s[i].toNat : Int) == 34) = false := by simp; omega
        have n123 : ((s[i].toNat : Int) == 123) = true := by simp; omega
        have HC := hide (jvObject_of s b i z w hs (by rw [J.B_at s i hi']; exact h123) HA.out ih)
        clear h34 h123 h91
        go_wp2_with fail
        refine HC.out.mono ?_
        rintro e w1 ⟨hbel, rfl | ⟨j, z2, rfl, hA2, hW, hk⟩⟩
        · go_wp2_with fail
          go_ret2
          exact ⟨hbel, Or.inl rfl⟩
        · have HW := hide hW
          have HB0 := hide hbel
          have HA2 := hide hA2
          have HK := hide hk
          clear hbel hA2 hW hk
          have hcell := (HA2.out i hi').1
          have hfr := (HA2.out i hi').2
          have HA9 := hide (HA2.out.set i hi' (j : Int))
          go_wp2_with fail
          go_ret2
          exact ⟨HB0.out.setCell (p := ⟨b, i, none⟩) (Nat.le_refl _) _, Or.inr ⟨j, put z2 i (j : Int), rfl, HA9.out, HW.out, put_same z2 i _, fun k hk => by rw [put_other z2 i k _ hk]; exact HK.out k⟩⟩
      · by_cases h91 : s[i].toNat = 91
        · have n34 : ((s[i].toNat : Int) == 34) = false := by simp; omega
          have n123 : ((s[i].toNat : Int) == 123) = false := by simp; omega
          have n91 : ((s[i].toNat : Int) == 91) = true := by simp; omega
          have HC := hide (jvArray_of s b i z w hs (by rw [J.B_at s i hi']; exact h91) HA.out ih)
          clear h34 h123 h91
          go_wp2_with fail
          refine HC.out.mono ?_
          rintro e w1 ⟨hbel, rfl | ⟨j, z2, rfl, hA2, hW, hk⟩⟩
          · go_wp2_with fail
            go_ret2
            exact ⟨hbel, Or.inl rfl⟩
          · have HW := hide hW
            have HB0 := hide hbel
            have HA2 := hide hA2
            have HK := hide hk
            clear hbel hA2 hW hk
            have hcell := (HA2.out i hi').1
            have hfr := (HA2.out i hi').2
            have HA9 := hide (HA2.out.set i hi' (j : Int))
            go_wp2_with fail
            go_ret2
            exact ⟨HB0.out.setCell (p := ⟨b, i, none⟩) (Nat.le_refl _) _, Or.inr ⟨j, put z2 i (j : Int), rfl, HA9.out, HW.out, put_same z2 i _, fun k hk => by rw [put_other z2 i k _ hk]; exact HK.out k⟩⟩
        · by_cases h116 : s[i].toNat = 116
          · have h102 : True := trivial
            have h110 : True := trivial
            have n34 : ((s[i].toNat : Int) == 34) = false := by simp; omega
            have n123 : ((s[i].toNat : Int) == 123) = false := by simp; omega
            have n91 : ((s[i].toNat : Int) == 91) = false := by simp; omega
            have n116 : ((s[i].toNat : Int) == 116) = true := by simp; omega
            have HC := hide (jvWord_any s wTrue i w hs hi' (by decide) wTrue_ord)
            clear h34 h123 h91 h116 h102 h110
            go_wp2_with fail
            refine HC.out.mono ?_
            rintro e w1 ⟨rfl | ⟨rfl, hle, hrun⟩, q, rfl⟩
            · go_wp2_with fail
              go_ret2
              exact ⟨below_drewN (Below.refl _ _) q, Or.inl rfl⟩
            · have HW : Hid (J.Weak s i (i + 4)) := J.weak_plain s i (i + 4) (by omega) hle hrun
              have HB0 : Hid (Below b w (w.drewN q)) := below_drewN (Below.refl _ _) q
              have HA2 : Hid (Arr (w.drewN q) b s.size z) := HA.out.drewN q
              obtain ⟨j, hj⟩ : ∃ j, j = i + 4 := ⟨_, rfl⟩
              rw [show wTrue.size = 4 from rfl, ← hj]
              rw [← hj] at HW
              clear hrun hle hj
              have hcell := (HA2.out i hi').1
              have hfr := (HA2.out i hi').2
              have HA9 := hide (HA2.out.set i hi' (j : Int))
              go_wp2_with fail
              go_ret2
              exact ⟨HB0.out.setCell (p := ⟨b, i, none⟩) (Nat.le_refl _) _, Or.inr ⟨j, put z i (j : Int), rfl, HA9.out, HW.out, put_same z i _, fun k hk => by rw [put_other z i k _ hk]; exact Or.inl rfl⟩⟩
          · by_cases h102 : s[i].toNat = 102
            · have h110 : True := trivial
              have n34 : ((s[i].toNat : Int) == 34) = false := by simp; omega
              have n123 : ((s[i].toNat : Int) == 123) = false := by simp; omega
              have n91 : ((s[i].toNat : Int) == 91) = false := by simp; omega
              have n116 : ((s[i].toNat : Int) == 116) = false := by simp; omega
              have n102 : ((s[i].toNat : Int) == 102) = true := by simp; omega
              have HC := hide (jvWord_any s wFalse i w hs hi' (by decide) wFalse_ord)
              clear h34 h123 h91 h116 h102 h110
              go_wp2_with fail
              refine HC.out.mono ?_
              rintro e w1 ⟨rfl | ⟨rfl, hle, hrun⟩, q, rfl⟩
              · go_wp2_with fail
                go_ret2
                exact ⟨below_drewN (Below.refl _ _) q, Or.inl rfl⟩
              · have HW : Hid (J.Weak s i (i + 5)) := J.weak_plain s i (i + 5) (by omega) hle hrun
                have HB0 : Hid (Below b w (w.drewN q)) := below_drewN (Below.refl _ _) q
                have HA2 : Hid (Arr (w.drewN q) b s.size z) := HA.out.drewN q
                obtain ⟨j, hj⟩ : ∃ j, j = i + 5 := ⟨_, rfl⟩
                rw [show wFalse.size = 5 from rfl, ← hj]
                rw [← hj] at HW
                clear hrun hle hj
                have hcell := (HA2.out i hi').1
                have hfr := (HA2.out i hi').2
                have HA9 := hide (HA2.out.set i hi' (j : Int))
                go_wp2_with fail
                go_ret2
                exact ⟨HB0.out.setCell (p := ⟨b, i, none⟩) (Nat.le_refl _) _, Or.inr ⟨j, put z i (j : Int), rfl, HA9.out, HW.out, put_same z i _, fun k hk => by rw [put_other z i k _ hk]; exact Or.inl rfl⟩⟩
            · by_cases h110 : s[i].toNat = 110
              · have n34 : ((s[i].toNat : Int) == 34) = false := by simp; omega
                have n123 : ((s[i].toNat : Int) == 123) = false := by simp; omega
                have n91 : ((s[i].toNat : Int) == 91) = false := by simp; omega
                have n116 : ((s[i].toNat : Int) == 116) = false := by simp; omega
                have n102 : ((s[i].toNat : Int) == 102) = false := by simp; omega
                have n110 : ((s[i].toNat : Int) == 110) = true := by simp; omega
                have HC := hide (jvWord_any s wNull i w hs hi' (by decide) wNull_ord)
                clear h34 h123 h91 h116 h102 h110
                go_wp2_with fail
                refine HC.out.mono ?_
                rintro e w1 ⟨rfl | ⟨rfl, hle, hrun⟩, q, rfl⟩
                · go_wp2_with fail
                  go_ret2
                  exact ⟨below_drewN (Below.refl _ _) q, Or.inl rfl⟩
                · have HW : Hid (J.Weak s i (i + 4)) := J.weak_plain s i (i + 4) (by omega) hle hrun
                  have HB0 : Hid (Below b w (w.drewN q)) := below_drewN (Below.refl _ _) q
                  have HA2 : Hid (Arr (w.drewN q) b s.size z) := HA.out.drewN q
                  obtain ⟨j, hj⟩ : ∃ j, j = i + 4 := ⟨_, rfl⟩
                  rw [show wNull.size = 4 from rfl, ← hj]
                  rw [← hj] at HW
                  clear hrun hle hj
                  have hcell := (HA2.out i hi').1
                  have hfr := (HA2.out i hi').2
                  have HA9 := hide (HA2.out.set i hi' (j : Int))
                  go_wp2_with fail
                  go_ret2
                  exact ⟨HB0.out.setCell (p := ⟨b, i, none⟩) (Nat.le_refl _) _, Or.inr ⟨j, put z i (j : Int), rfl, HA9.out, HW.out, put_same z i _, fun k hk => by rw [put_other z i k _ hk]; exact Or.inl rfl⟩⟩
              · have n34 : ((s[i].toNat : Int) == 34) = false := by simp; omega
                have n123 : ((s[i].toNat : Int) == 123) = false := by simp; omega
                have n91 : ((s[i].toNat : Int) == 91) = false := by simp; omega
                have n116 : ((s[i].toNat : Int) == 116) = false := by simp; omega
                have n102 : ((s[i].toNat : Int) == 102) = false := by simp; omega
                have n110 : ((s[i].toNat : Int) == 110) = false := by simp; omega
                clear h34 h123 h91 h116 h102 h110
                go_wp2_with fail
                refine (jvNumber_any s i _ hs hi').mono ?_
                rintro e w1 ⟨rfl | ⟨j, rfl, hj1, hj2, hj3⟩, rfl⟩
                · go_wp2_with fail
                  go_ret2
                  exact ⟨Below.refl _ _, Or.inl rfl⟩
                · have HW := hide (J.weak_plain s i j hj1 hj2 hj3)
                  have HB0 := hide (Below.refl b w1)
                  clear hj3
                  have hcell := (HA.out i hi').1
                  have hfr := (HA.out i hi').2
                  have HA9 := hide (HA.out.set i hi' (j : Int))
                  go_wp2_with fail
                  go_ret2
                  exact ⟨HB0.out.setCell (p := ⟨b, i, none⟩) (Nat.le_refl _) _, Or.inr ⟨j, put z i (j : Int), rfl, HA9.out, HW.out, put_same z i _, fun k hk => by rw [put_other z i k _ hk]; exact Or.inl rfl⟩⟩
  · go_enter Try.func22, Try.ntmps22
    go_wp2_with fail
    go_ret2
    exact ⟨Below.refl _ _, Or.inl rfl⟩

end Go.Proofs.Qxb6601857a
