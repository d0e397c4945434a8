/-
  THE WALKS of seat b6601857a, part 10: the recursion closed; jvParse; the law.
-/
import Derived.Test.Qxb6601857aWalks6
import Derived.Test.Qxb6601857aWalks9
import Derived.Deep.OwnRows
namespace Go.Proofs.Qxb6601857a
open Go.RowKit

theorem jvValue_any (s : ByteArray) (b : Nat) (hs : s.size ≤ 1048576) : ∀ (n i : Nat) (z : Nat → Int) (w : World), s.size - i ≤ n → i ≤ s.size → Arr w b s.size z →
    Calls Try.prog 22 #[.string s, .int .i64 (i : Int), .slice (some ⟨b, 0, none⟩) s.size s.size] w fun e w' => ValPost s i b z w e w' := by
  intro n
  induction n with
  | zero => intro i z w hn hi hA; exact jvValue_of s b i z w hs hi hA (fun j _ _ h1 h2 _ => by omega)
  | succ n ih => intro i z w hn hi hA; exact jvValue_of s b i z w hs hi hA (fun j z' w' h1 h2 hA' => ih j z' w' (by omega) h2 hA')

theorem Try.info3 : (Try.prog.info? 3).map (fun i => (i.zero, i.size, i.bytes)) = some (some (.int .i64 0), 1, 8) := by kernel_rfl
def zeros (n : Nat) : Obj := .cells (madeCells #[.int .i64 0] n) 3
theorem arr_made (w : World) (n : Nat) : Arr (w.alloc (zeros n)) w.heap.size n (fun _ => 0) := by
  intro k hk
  unfold zeros
  have hb : (w.alloc (.cells (madeCells #[.int .i64 0] n) 3)).heap[w.heap.size]? = some (.cells (madeCells #[.int .i64 0] n) 3) := (MapKept.heap_alloc w _).1
  refine ⟨?_, ?_⟩
  · unfold World.cell?
    rw [hb]
    simp [madeCells, hk, Nat.mod_one]
  · unfold World.frozen?
    rw [hb]
    simp

def ParsePost (s : ByteArray) (w : World) (e : Ending) (w' : World) : Prop :=
  Below w.heap.size w w' ∧ w.heap.size < w'.heap.size ∧ (e = .returned (.tuple #[.slice none 0 0, .bool false]) ∨ ∃ z' : Nat → Int, e = .returned (.tuple #[.slice (some ⟨w.heap.size, 0, none⟩) s.size s.size, .bool true]) ∧ Arr w' w.heap.size s.size z' ∧ ∀ k, z' k = 0 ∨ J.Good s k (z' k))

set_option maxRecDepth 100000 in
set_option maxHeartbeats 1000000 in
theorem jvParse_any (s : ByteArray) (w : World) (hs : s.size ≤ 1048576) :
    Calls Try.prog 16 #[.string s] w fun e w' => ParsePost s w e w' := by
  unfold ParsePost
  have hmk := run_make_row' (P := Try.prog) 30 3 (.int .i64 0) 8 Try.underlying30 Try.info3 rfl .i64 .i64 s.size (by omega) (by omega)
  have HM := hide (arr_made w s.size)
  unfold zeros at HM
  have HC1 := fun W => hide (jvSkip_any s 0 W hs (Nat.zero_le _))
  go_enter Try.func16, Try.ntmps16
  go_wp2_with fail
  refine (HC1 _).out.mono ?_
  rintro e w1 ⟨⟨p, rfl, _, hp2, _⟩, rfl⟩
  go_wp2_with fail
  refine (jvValue_any s w.heap.size hs _ p _ _ (Nat.le_refl _) hp2 HM.out).mono ?_
  rintro e w2 ⟨hbel, rfl | ⟨j, z2, rfl, hA2, hW, hz, hk⟩⟩
  · have hsz := hbel.size
    simp at hsz
    have HB : Hid (Below w.heap.size w w2) := ((Below.refl _ _).alloc (Nat.le_refl _) _).trans hbel
    clear hbel
    go_wp2_with fail
    go_ret2
    exact ⟨HB.out, by omega, Or.inl rfl⟩
  · have hsz := hbel.size
    simp at hsz
    have HB : Hid (Below w.heap.size w w2) := ((Below.refl _ _).alloc (Nat.le_refl _) _).trans hbel
    have HA2 := hide hA2
    have HK := hide hk
    have HW := hide hW
    have HZ := hide hz
    have hj2 := hW.2.1
    clear hbel hA2 hk hW hz
    go_wp2_with fail
    refine (skip_behind s j _ hs hj2).mono ?_
    rintro e w3 ⟨⟨q, rfl, hq1, hq2, _, HD⟩, rfl⟩
    cases hqe : ((q : Int) != (s.size : Int)) with
    | true =>
      go_wp2_with fail
      go_ret2
      exact ⟨HB.out, by omega, Or.inl rfl⟩
    | false =>
      have HE : Hid (J.End s p j) := HW.out.2.2.2 (HD.out (Or.inl (by simp at hqe; omega)))
      have HF : Hid (∀ k, z2 k = 0 ∨ J.Good s k (z2 k)) := comb s (fun _ => 0) (fun _ => 0) z2 p j (fun _ => Or.inl rfl) HK.out HZ.out HE.out
      clear HK
      go_wp2_with fail
      go_ret2
      exact ⟨HB.out, by omega, Or.inr ⟨z2, rfl, HA2.out, HF.out⟩⟩

theorem bytes_yes (s : ByteArray) (h : Bool) (x y : Int) (w : World) (hs : s.size ≤ 1048576) :
    Calls Try.prog 15 #[.string s, .bool h, .int .i64 x, .int .i64 y] w fun e w' => e = .returned (.bool true) ∧ w' = w := by
  go_enter Try.func15, Try.ntmps15
  go_wp2
  go_ret
  exact ⟨rfl, rfl⟩
theorem bytes_no (s : ByteArray) (h : Bool) (x y : Int) (w : World) (h63 : s.size ≤ 9223372036854775807) (hs : ¬ s.size ≤ 1048576) :
    Calls Try.prog 15 #[.string s, .bool h, .int .i64 x, .int .i64 y] w fun e w' => e = .returned (.bool false) ∧ w' = w := by
  go_enter Try.func15, Try.ntmps15
  go_wp2
  go_ret
  exact ⟨rfl, rfl⟩

set_option maxRecDepth 100000 in
set_option maxHeartbeats 2000000 in
theorem law_any (s : ByteArray) (h : Bool) (x y : Int) (w : World) (h63 : s.size ≤ 9223372036854775807) :
    Calls Try.prog 6 #[.string s, .bool h, .int .i64 x, .int .i64 y] w fun e w' => e = .returned (.bool true) ∧ Below w.heap.size w w' := by
  by_cases hs : s.size ≤ 1048576
  · go_enter Try.func6, Try.ntmps6
    go_wp2_with (go_at_call 15; refine (bytes_yes _ _ _ _ _ hs).mono ?_; rintro e w' ⟨rfl, rfl⟩)
    refine (jvParse_any s _ hs).mono ?_
    rintro e w1 ⟨hbel, hsz, rfl | ⟨z, rfl, hA, hG⟩⟩
    · have HB := hide hbel
      clear hbel
      go_wp2_with fail
      go_ret
      exact ⟨rfl, HB.out⟩
    · have HB := hide hbel
      have HA := hide hA
      have HG := hide hG
      clear hbel hA hG
      by_cases hy : 0 ≤ y ∧ y < s.size
      · obtain ⟨hy0, hy1⟩ := hy
        obtain ⟨k, rfl⟩ := Int.eq_ofNat_of_zero_le hy0
        have hk : k < s.size := by omega
        have hcell := (HA.out k hk).1
        by_cases hz0 : z k = 0
        · rw [hz0] at hcell
          go_wp2_with fail
          go_ret
          exact ⟨rfl, HB.out⟩
        · obtain ⟨e0, he0, hend⟩ := (HG.out k).resolve_left hz0
          rw [he0] at hcell
          have hne : ((e0 : Int) == 0) = false := by rw [beq_eq_false_iff_ne, ← he0]; exact hz0
          clear hz0 he0
          have HEND := hide hend
          clear hend
          cases h with
          | false =>
            go_wp2_with fail
            refine (zz_nil s k e0 _ hs HEND.out).mono ?_
            rintro e w2 ⟨rfl, hb2⟩
            have hcell2 := (hb2.cell (p := ⟨w'.heap.size, k, none⟩) hsz).trans hcell
            have HB2 := hide (HB.out.trans (hb2.mono (by omega)))
            clear hb2 hcell
            go_wp2_with fail
            go_ret
            exact ⟨by simp, HB2.out⟩
          | true =>
            have hput := put_one (k : Int) x w1
            have hmm := run_makeMap (P := Try.prog) 33 w1
            have hmem : (w1.alloc (oneMap (k : Int) x)).heap[w1.heap.size]? = some (oneMap (k : Int) x) := (MapKept.heap_alloc w1 _).1
            by_cases hct : s[k].toNat = 123 ∨ s[k].toNat = 91
            · have HZ := hide (zz_hit s k w1.heap.size x (w1.alloc (oneMap (k : Int) x)) hmem (by rw [J.B_at s k hk]; exact hct))
              clear hmem
              by_cases h123 : s[k].toNat = 123
              · have hi : ((s[k].toNat : Int) == 123) = true := by simp; omega
                clear hct h123
                go_wp2_with fail
                refine HZ.out.mono ?_
                rintro e w2 ⟨rfl, hb2⟩
                have hcell2 : w2.cell? ⟨w'.heap.size, k, none⟩ = some (.int .i64 (e0 : Int)) := by
                  rw [hb2.cell (p := ⟨w'.heap.size, k, none⟩) (by simp; omega), World.cell?_alloc_lt w1 _ _ hsz]
                  exact hcell
                have HB2 : Hid (Below w'.heap.size w' w2) := (HB.out.alloc (by omega) _).trans (hb2.mono (by simp; omega))
                clear hb2 hcell
                go_wp2_with fail
                go_ret
                exact ⟨by simp, HB2.out⟩
              · have hn : ((s[k].toNat : Int) == 123) = false := by simp; omega
                have hi : ((s[k].toNat : Int) == 91) = true := by simp; omega
                clear hct h123
                go_wp2_with fail
                refine HZ.out.mono ?_
                rintro e w2 ⟨rfl, hb2⟩
                have hcell2 : w2.cell? ⟨w'.heap.size, k, none⟩ = some (.int .i64 (e0 : Int)) := by
                  rw [hb2.cell (p := ⟨w'.heap.size, k, none⟩) (by simp; omega), World.cell?_alloc_lt w1 _ _ hsz]
                  exact hcell
                have HB2 : Hid (Below w'.heap.size w' w2) := (HB.out.alloc (by omega) _).trans (hb2.mono (by simp; omega))
                clear hb2 hcell
                go_wp2_with fail
                go_ret
                exact ⟨by simp, HB2.out⟩
            · have HZ := hide (zz_miss s k e0 w1.heap.size (w1.alloc (oneMap (k : Int) x)) hs HEND.out (by rw [J.B_at s k hk]; exact hct))
              have hn : ((s[k].toNat : Int) == 123) = false := by simp; omega
              have hn2 : ((s[k].toNat : Int) == 91) = false := by simp; omega
              clear hct hmem
              go_wp2_with fail
              refine HZ.out.mono ?_
              rintro e w2 ⟨rfl, hb2⟩
              have hcell2 : w2.cell? ⟨w'.heap.size, k, none⟩ = some (.int .i64 (e0 : Int)) := by
                rw [hb2.cell (p := ⟨w'.heap.size, k, none⟩) (by simp; omega), World.cell?_alloc_lt w1 _ _ hsz]
                exact hcell
              have HB2 : Hid (Below w'.heap.size w' w2) := (HB.out.alloc (by omega) _).trans (hb2.mono (by simp; omega))
              clear hb2 hcell
              go_wp2_with fail
              go_ret
              exact ⟨by simp, HB2.out⟩
      · by_cases hy0 : y < 0
        · go_wp2_with fail
          go_ret
          exact ⟨rfl, HB.out⟩
        · have hy1 : (s.size : Int) ≤ y := by omega
          clear hy
          go_wp2_with fail
          go_ret
          exact ⟨rfl, HB.out⟩
  · go_enter Try.func6, Try.ntmps6
    go_wp2_with (go_at_call 15; refine (bytes_no _ _ _ _ _ h63 hs).mono ?_; rintro e w' ⟨rfl, rfl⟩)
    go_ret
    exact ⟨rfl, Below.refl _ _⟩

end Go.Proofs.Qxb6601857a
