/-
  THE WALKS of seat b6601857a, part 7: jvArray, over a contract of jvValue at the places behind.
-/
import Derived.Test.Qxb6601857aWalks2
import Derived.Test.Qxb6601857aWalks3
import Derived.Test.Qxb6601857aWalks4
namespace Go.Proofs.Qxb6601857a
open Go.RowKit

/-- The array endAt: block b, n cells, the numbers z. -/
def Arr (w : World) (b n : Nat) (z : Nat → Int) : Prop := ∀ k, k < n → w.cell? ⟨b, k, none⟩ = some (.int .i64 (z k)) ∧ w.frozen? ⟨b, k, none⟩ = false
def put (z : Nat → Int) (i : Nat) (v : Int) : Nat → Int := fun k => if k = i then v else z k
theorem put_same (z : Nat → Int) (i : Nat) (v : Int) : put z i v i = v := by unfold put; rw [if_pos rfl]
theorem put_other (z : Nat → Int) (i k : Nat) (v : Int) (h : k ≠ i) : put z i v k = z k := by unfold put; rw [if_neg h]
theorem Arr.set {w : World} {b n : Nat} {z : Nat → Int} (h : Arr w b n z) (i : Nat) (hi : i < n) (v : Int) : Arr (w.setCell ⟨b, i, none⟩ (.int .i64 v)) b n (put z i v) := by
  intro k hk
  refine ⟨?_, by rw [World.frozen?_setCell]; exact (h k hk).2⟩
  by_cases hki : k = i
  · subst hki; rw [put_same]; exact World.cell?_setCell_same w _ _ (h k hk).1
  · rw [put_other z i k v hki, World.cell?_setCell_other w _ _ _ (by intro e; injection e with _ e2; exact hki e2.symm)]
    exact (h k hk).1
theorem Arr.drewN {w : World} {b n : Nat} {z : Nat → Int} (h : Arr w b n z) (q : Nat) : Arr (w.drewN q) b n z := h

def ValPost (s : ByteArray) (i b : Nat) (z : Nat → Int) (w : World) (e : Ending) (w' : World) : Prop :=
  Below b w w' ∧ (e = .returned (.tuple #[.int .i64 0, .bool false]) ∨ ∃ (j : Nat) (z' : Nat → Int), e = .returned (.tuple #[.int .i64 (j : Int), .bool true]) ∧ Arr w' b s.size z' ∧ J.Weak s i j ∧ z' i = j ∧ ∀ k, k ≠ i → z' k = z k ∨ J.Good s k (z' k))
def ContPost (s : ByteArray) (i b : Nat) (z : Nat → Int) (w : World) (e : Ending) (w' : World) : Prop :=
  Below b w w' ∧ (e = .returned (.tuple #[.int .i64 0, .bool false]) ∨ ∃ (j : Nat) (z' : Nat → Int), e = .returned (.tuple #[.int .i64 (j : Int), .bool true]) ∧ Arr w' b s.size z' ∧ J.Weak s i j ∧ ∀ k, z' k = z k ∨ J.Good s k (z' k))
/-- jvValue's contract at the places behind i. -/
def Later (s : ByteArray) (b i : Nat) : Prop := ∀ (j : Nat) (z : Nat → Int) (w : World), i < j → j ≤ s.size → Arr w b s.size z →
  Calls Try.prog 22 #[.string s, .int .i64 (j : Int), .slice (some ⟨b, 0, none⟩) s.size s.size] w fun e w' => ValPost s j b z w e w'

theorem skip_at (s : ByteArray) (i : Nat) (w : World) (hs : s.size ≤ 1048576) (hi : i < s.size) :
    Calls Try.prog 19 #[.string s, .int .i64 ((i : Int) + 1)] w fun e w' => (∃ j : Nat, e = .returned (.int .i64 (j : Int)) ∧ i + 1 ≤ j ∧ j ≤ s.size ∧ Hid (J.Into s (i + 1) j)) ∧ w' = w := by
  have h := jvSkip_any s (i + 1) w hs hi
  rw [show ((i + 1 : Nat) : Int) = (i : Int) + 1 from by omega] at h
  refine h.mono ?_
  rintro e w' ⟨⟨j, rfl, h1, h2, h3⟩, rfl⟩
  exact ⟨⟨j, rfl, h1, h2, J.into_ws s (i + 1) j h1 h2 h3⟩, rfl⟩
/-- Behind a value: the white space; what stands at its end tells where it ends. -/
theorem skip_behind (s : ByteArray) (i : Nat) (w : World) (hs : s.size ≤ 1048576) (hi : i ≤ s.size) :
    Calls Try.prog 19 #[.string s, .int .i64 (i : Int)] w fun e w' => (∃ j : Nat, e = .returned (.int .i64 (j : Int)) ∧ i ≤ j ∧ j ≤ s.size ∧ Hid (J.Into s i j) ∧ Hid (j = s.size ∨ J.delim (J.B s j) → i = s.size ∨ J.delim (J.B s i))) ∧ w' = w := by
  refine (jvSkip_any s i w hs hi).mono ?_
  rintro e w' ⟨⟨j, rfl, h1, h2, h3⟩, rfl⟩
  refine ⟨⟨j, rfl, h1, h2, J.into_ws s i j h1 h2 h3, fun h => ?_⟩, rfl⟩
  by_cases he : i = j
  · rw [he]; exact h
  · exact Or.inr (Or.inl (h3 i (Nat.le_refl _) (by omega)))

theorem comb (s : ByteArray) (z z1 z2 : Nat → Int) (p j : Nat) (h1 : ∀ k, z1 k = z k ∨ J.Good s k (z1 k)) (h2 : ∀ k, k ≠ p → z2 k = z1 k ∨ J.Good s k (z2 k)) (h3 : z2 p = j) (hg : J.End s p j) : ∀ k, z2 k = z k ∨ J.Good s k (z2 k) := by
  intro k
  by_cases hk : k = p
  · subst hk; exact Or.inr ⟨j, h3, hg⟩
  · rcases h2 k hk with h | h
    · rw [h]; exact h1 k
    · exact Or.inr h

theorem delim_44 (n : Nat) (h : ((n : Int) != 44) = false) : J.delim n := by simp at h; unfold J.delim; omega
theorem delim_93 (n : Nat) (h : ((n : Int) == 93) = true) : J.delim n := by simp at h; unfold J.delim; omega
theorem delim_125 (n : Nat) (h : ((n : Int) == 125) = true) : J.delim n := by simp at h; unfold J.delim; omega

set_option maxRecDepth 100000 in
set_option maxHeartbeats 2000000 in
theorem jvArray_of (s : ByteArray) (b i : Nat) (z : Nat → Int) (w : World) (hs : s.size ≤ 1048576) (hi : J.B s i = 91) (hA : Arr w b s.size z) (ih : Later s b i) :
    Calls Try.prog 27 #[.string s, .int .i64 (i : Int), .slice (some ⟨b, 0, none⟩) s.size s.size] w fun e w' => ContPost s i b z w e w' := by
  have hil := J.B_in s i (by omega)
  have HI := hide hi
  have HA := hide hA
  clear hi hA
  unfold ContPost
  go_enter Try.func27, Try.ntmps27
  go_wp2_with fail
  refine (skip_at s i _ hs hil).mono ?_
  rintro e w' ⟨⟨p, rfl, hp1, hp2, HIN⟩, rfl⟩
  by_cases hcl : ∃ h : p < s.size, ((s[p].toNat : Int) == 93) = true
  · obtain ⟨hlt, h93⟩ := hcl
    have HW : Hid (J.Weak s i (p + 1)) := J.weak_cont s i p (Or.inr HI.out) HIN.out (by omega) (by rw [J.B_at s p hlt]; simp at h93; omega)
    go_wp2_with fail
    go_ret2
    exact ⟨Below.refl _ _, Or.inr ⟨p + 1, z, by go_num, HA.out, HW.out, fun k => Or.inl rfl⟩⟩
  · by_cases hlt : p < s.size
    · have h93 : ((s[p].toNat : Int) == 93) = false := by
        cases hx : ((s[p].toNat : Int) == 93) with
        | false => rfl
        | true => exact absurd ⟨hlt, hx⟩ hcl
      clear hcl
      go_wp2_with fail
      go_loopw [1] (fun x wr => ∃ (p : Nat) (z1 : Nat → Int), x = .int .i64 (p : Int) ∧ i < p ∧ p ≤ s.size ∧ Hid (J.Into s (i + 1) p) ∧ Hid (Arr wr b s.size z1) ∧ Hid (Below b w' wr) ∧ Hid (∀ k, z1 k = z k ∨ J.Good s k (z1 k))) (fun x _ => s.size - (intOf x).toNat)
      case atStart => exact ⟨p, z, rfl, by omega, hp2, HIN, HA, Below.refl _ _, fun k => Or.inl rfl⟩
      case round =>
        obtain ⟨p, z1, rfl, hip, hp, HIN, HA, HB, HZ⟩ := hrel
        by_cases hlt : p < s.size
        · go_wp2_with fail
          refine (ih p z1 _ hip hp HA.out).mono ?_
          rintro e w2 ⟨hbel, rfl | ⟨j, z2, rfl, hA2, hW, hz, hk⟩⟩
          · have HB2 := hide (HB.out.trans hbel)
            clear hbel
            go_wp2_with fail
            go_ret2
            exact ⟨HB2.out, Or.inl rfl⟩
          · have HB2 := hide (HB.out.trans hbel)
            have HA2 := hide hA2
            have HW := hide hW
            have HZ2 := hide (comb s z z1 z2 p j HZ.out hk hz)
            have hj1 := hW.1
            have hj2 := hW.2.1
            clear hbel hA2 hW hk hz
            go_wp2_with fail
            refine (skip_behind s j _ hs hj2).mono ?_
            rintro e w3 ⟨⟨q, rfl, hq1, hq2, HJQ, HD⟩, rfl⟩
            by_cases hql : q < s.size
            · have HBq := hide (J.B_at s q hql)
              cases h93 : ((s[q].toNat : Int) == 93) with
              | true =>
                have HF : Hid (J.Weak s i (q + 1)) := J.weak_cont s i q (Or.inr HI.out) (HIN.out.trans (HW.out.2.2.1.trans HJQ.out)) (by omega) (by rw [HBq.out]; simp at h93; omega)
                have HE : Hid (J.End s p j) := HW.out.2.2.2 (HD.out (Or.inr (by rw [HBq.out]; exact delim_93 _ h93)))
                go_wp2_with fail
                go_ret2
                exact ⟨HB2.out, Or.inr ⟨q + 1, z2, by go_num, HA2.out, HF.out, HZ2.out HE.out⟩⟩
              | false =>
                cases h44 : ((s[q].toNat : Int) != 44) with
                | true =>
                  go_wp2_with fail
                  go_ret2
                  exact ⟨HB2.out, Or.inl rfl⟩
                | false =>
                  have HE : Hid (J.End s p j) := HW.out.2.2.2 (HD.out (Or.inr (by rw [HBq.out]; exact delim_44 _ h44)))
                  have HN : Hid (J.Into s (i + 1) (q + 1)) := HIN.out.trans (HW.out.2.2.1.trans (HJQ.out.trans (J.into_char s q hql (by rw [HBq.out]; simp at h44; omega) (by rw [HBq.out]; simp at h44; omega) (by rw [HBq.out]; simp at h44; omega) (by rw [HBq.out]; simp at h44; omega) (by rw [HBq.out]; simp at h44; omega))))
                  go_wp2_with fail
                  refine (skip_at s q _ hs hql).mono ?_
                  rintro e w4 ⟨⟨r, rfl, hr1, hr2, HQR⟩, rfl⟩
                  go_wp2_with fail
                  go_roundw
                  case rel => exact ⟨r, z2, rfl, by omega, hr2, HN.out.trans HQR.out, HA2, HB2, HZ2.out HE.out⟩
                  case measure => simp [intOf]; omega
            · go_wp2_with fail
              go_ret2
              exact ⟨HB2.out, Or.inl rfl⟩
        · go_wp2_with fail
          go_ret2
          exact ⟨HB.out, Or.inl rfl⟩
    · go_wp2_with fail
      refine wp_loop_rounds 1 ?_
      rw [rounds_succ]
      go_wp2_with fail
      go_ret2
      exact ⟨Below.refl _ _, Or.inl rfl⟩

end Go.Proofs.Qxb6601857a
