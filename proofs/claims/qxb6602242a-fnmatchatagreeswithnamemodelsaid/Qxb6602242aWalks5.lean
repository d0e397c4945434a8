/-
  THE WALKS of seat b6602242a, part 5: FnMatchAtAgreesWithNameModel.
-/
import Derived.Test.Qxb6602242aWalks2
import Derived.Test.Qxb6602242aWalks4
namespace Go.Proofs.Qxb6602242a
open Go.RowKit

theorem slice_span (s : ByteArray) (p q : Nat) (hpq : p ≤ q) (h : q ≤ s.size) (w : World) : Sem.run Try.prog (Instr.slice 9 (.string s) (some (.int .i64 (p : Int))) (some (.int .i64 (q : Int))) none) w = .ok (.string (s.extract p q)) w := by
  have := run_slice_string (P := Try.prog) w 9 s .i64 .i64 (p : Int) (q : Int) Try.underlying9 (by omega) (by omega) (by omega)
  rw [Int.toNat_natCast, Int.toNat_natCast] at this
  exact this

set_option maxRecDepth 100000 in
set_option maxHeartbeats 2000000 in
theorem law_any (d : Bool) (a : Option Addr) (n c : Nat) (t : Nat → ByteArray) (s : ByteArray) (y : Int) (x : Int) (w : World) (hn : n ≤ 9223372036854775807) (hs : s.size ≤ 9223372036854775807) (hy0 : -9223372036854775808 ≤ y) (hy1 : y ≤ 9223372036854775807) (hg0 : 0 < w.heap.size) (hg : w.cell? ⟨0, 0, none⟩ = some (.int .i64 x))
    (hz : a = none → n = 0) (h : Sl w a n (fun k => .string (t k))) :
    Calls Try.prog 7 #[.bool d, .slice a n c, .string s, .int .i64 y] w fun e w' => e = .returned (.bool true) ∧ Below w.heap.size w w' := by
  have H := hide h
  have Z := hide hz
  have HG := hide hg
  clear h hz hg
  have HC1 := hide (bytes_any d a n c t s y w hn hs H.out)
  go_enter Try.func7, Try.ntmps7
  go_wp2_with fail
  refine HC1.out.mono ?_
  rintro e w' ⟨rfl | ⟨rfl, s1, s2, s3⟩, rfl⟩
  · go_wp2_with fail
    go_ret
    exact ⟨rfl, Below.refl _ _⟩
  have S3 := hide s3
  clear s3 HC1
  have b1 : decide (1048576 < (s.size : Int)) = false := by simp; omega
  have b2 : decide (1048576 < (n : Int)) = false := by simp; omega
  go_wp2_with fail
  refine (stringsBytes_any a n c t _ s1 H.out).mono ?_
  rintro e w' ⟨⟨x1, rfl⟩, rfl⟩
  by_cases hX : 1048576 < wrap64 ((s.size : Int) + x1)
  · go_wp2_with fail
    go_ret
    exact ⟨rfl, Below.refl _ _⟩
  cases b3 : decide (4096 < (s.size : Int)) with
  | true =>
    go_wp2_with fail
    go_ret
    exact ⟨rfl, Below.refl _ _⟩
  | false =>
    cases b4 : decide (4096 < (n : Int)) with
    | true =>
      go_wp2_with fail
      go_ret
      exact ⟨rfl, Below.refl _ _⟩
    | false =>
      go_wp2_with fail
      refine (rawBytes_any a n c t _ s1 H.out).mono ?_
      rintro e w' ⟨⟨x2, rfl⟩, rfl⟩
      cases hX2 : decide (4096 < x2) with
      | true =>
        go_wp2_with fail
        go_ret
        exact ⟨rfl, Below.refl _ _⟩
      | false =>
        cases h0 : ((n : Int) == 0) with
        | true =>
          go_wp2_with fail
          go_ret
          exact ⟨rfl, Below.refl _ _⟩
        | false =>
          have hpos : 0 < n := by simp at h0; omega
          go_wp2_with fail
          refine (anySlash_any a n c t _ s1 S3.out hpos H.out).mono ?_
          rintro e w' ⟨rfl | ⟨rfl, hf⟩, rfl⟩
          · go_wp2_with fail
            go_ret
            exact ⟨rfl, Below.refl _ _⟩
          have HF := hide hf
          clear hf
          cases b5 : decide (y < 0) with
          | true =>
            go_wp2_with fail
            go_ret
            exact ⟨rfl, Below.refl _ _⟩
          | false =>
            cases b6 : decide ((s.size : Int) < y) with
            | true =>
              go_wp2_with fail
              go_ret
              exact ⟨rfl, Below.refl _ _⟩
            | false =>
              have y1 : 0 ≤ y := by simpa using b5
              have y2 : y ≤ s.size := by simpa using b6
              obtain ⟨A, rfl⟩ := Int.eq_ofNat_of_zero_le y1
              have y3 : A ≤ s.size := by omega
              go_wp2_with fail
              refine (cloneS_any a n c t _ s1 Z.out H.out).mono ?_
              rintro e w1 ⟨p, rfl, hp1, hb1⟩
              have HP1 := hide hp1
              have HB1 := hide hb1
              have hg1 : 0 < w1.heap.size := Nat.lt_of_lt_of_le hg0 hb1.size
              have HG1 := hide ((hb1.cell (p := ⟨0, 0, none⟩) hg0).trans HG.out)
              clear hp1 hb1
              go_wp2_with fail
              go_loop [9] (fun i => ∃ k : Nat, i = .int .i64 (k : Int) ∧ A ≤ k ∧ k ≤ s.size ∧ Hid (∀ j, A ≤ j → j < k → P.B s j ≠ 47)) (fun i => s.size - (intOf i).toNat)
              case atStart => exact ⟨A, rfl, Nat.le_refl _, y3, fun j h1 h2 => by omega⟩
              case round =>
                obtain ⟨k, rfl, hAk, hk, HR⟩ := hrel
                by_cases hgo : k < s.size ∧ P.B s k ≠ 47
                · obtain ⟨g1, g2⟩ := hgo
                  have h47 : ((s[k].toNat : Int) != 47) = true := by rw [P.B_at s k g1] at g2; simp; omega
                  have HN := hide g2
                  clear g2
                  go_wp2_with fail
                  go_round
                  case rel => exact ⟨k + 1, by go_num, by omega, by omega, fun j h1 h2 => by
                    by_cases hjk : j = k
                    · rw [hjk]; exact HN.out
                    · exact HR.out j h1 (by omega)⟩
                  case measure => simp [intOf]; omega
                · have HNM : P.Name s A k := ⟨hAk, hk, HR.out, by
                    by_cases hks : k = s.size
                    · exact Or.inl hks
                    · refine Or.inr (Classical.byContradiction fun hne => hgo ⟨by omega, hne⟩)⟩
                  have hcase : (∃ h : k < s.size, ((s[k].toNat : Int) != 47) = false) ∨ ¬ k < s.size := by
                    by_cases hks : k < s.size
                    · refine Or.inl ⟨hks, ?_⟩
                      rcases HNM.stop with h1 | h1
                      · omega
                      · rw [P.B_at s k hks] at h1; simp; omega
                    · exact Or.inr hks
                  have hsz := P.size_piece s A k hk hAk
                  have hsl := slice_span s A k hAk hk
                  have HGL := hide (glob_any p n n t (s.extract A k) w1 s1 (by rw [hsz]; omega) S3.out hpos HP1.out)
                  have HZ : ∀ W : World, 0 < W.heap.size → W.cell? ⟨0, 0, none⟩ = some (.int .i64 x) → Sl W p n (fun k => .string (t k)) → Calls Try.prog 29 #[.bool d, .slice p n n, .string s, .int .i64 (A : Int)] W fun r w' => r = .returned (.tuple #[.int .i64 (nextI n (P.G (s.extract A k) t n (s.extract A k).size) k), .bool (P.G (s.extract A k) t n (s.extract A k).size)]) ∧ Below W.heap.size W w' :=
                    fun W q1 q2 q3 => zzMatchAt_any d p n t s A k x W hpos s1 s2 S3.out q1 q2 q3 HF.out HNM
                  clear hsz HNM hgo
                  generalize P.G (s.extract A k) t n (s.extract A k).size = gg at HGL HZ
                  obtain ⟨nx, hnx, hend⟩ : ∃ nx, nextI n gg k = nx ∧ ((gg = true ∧ nx = (k : Int) + 1) ∨ (gg = false ∧ ((n : Int) == 1) = true ∧ nx = 0) ∨ (gg = false ∧ ((n : Int) == 1) = false ∧ nx = (k : Int) + 1)) := by
                    refine ⟨_, rfl, ?_⟩
                    unfold nextI
                    cases gg with
                    | true => exact Or.inl ⟨rfl, if_pos rfl⟩
                    | false =>
                      rw [if_neg (by decide)]
                      by_cases hn1 : n = 1
                      · exact Or.inr (Or.inl ⟨rfl, by simp; omega, if_pos hn1⟩)
                      · exact Or.inr (Or.inr ⟨rfl, by simp; omega, if_neg hn1⟩)
                  rw [hnx] at HZ
                  clear hnx
                  have HZ := hide HZ
                  rcases hend with ⟨rfl, rfl⟩ | ⟨rfl, hn1, rfl⟩ | ⟨rfl, hn1, rfl⟩
                  all_goals rcases hcase with ⟨hks, h47⟩ | hks
                  all_goals
                    go_wp2_with fail
                    refine HGL.out.mono ?_
                    rintro e w2 ⟨rfl, hb2⟩
                    have HP2 := hide (HP1.out.below hb2)
                    have hg2 : 0 < w2.heap.size := Nat.lt_of_lt_of_le hg1 hb2.size
                    have HG2 := hide ((hb2.cell (p := ⟨0, 0, none⟩) hg1).trans HG1.out)
                    have HB2 := hide (HB1.out.trans (hb2.mono HB1.out.size))
                    clear hb2
                    go_wp2_with fail
                    refine (HZ.out w2 hg2 HG2.out HP2.out).mono ?_
                    rintro e w3 ⟨rfl, hb3⟩
                    have HB3 := hide (HB2.out.trans (hb3.mono HB2.out.size))
                    clear hb3
                    go_wp2_with fail
                    go_ret
                    exact ⟨rfl, HB3.out⟩
end Go.Proofs.Qxb6602242a
