/-
  THE WALKS of seat b6602242a, part 4: matchAt, ZZMatchAt.
-/
import Derived.Test.Qxb6602242aWalks3
namespace Go.Proofs.Qxb6602242a
open Go.RowKit

/-- What matchAt answers as the next place. -/
def nextI (n : Nat) (g : Bool) (e : Nat) : Int := if g = true then (e : Int) + 1 else if n = 1 then 0 else (e : Int) + 1
theorem ret_two {a b : Int} {c d : Bool} (h : a = b) (h2 : c = d) : Ending.returned (.tuple #[.int .i64 a, .bool c]) = .returned (.tuple #[.int .i64 b, .bool d]) := by rw [h, h2]
theorem idx_add (s : ByteArray) (i k : Nat) (h : i + k < s.size) (w : World) : (Instr.index 9 (.string s) (.int .i64 ((i : Int) + (k : Int)))).run Try.prog w = .ok (.int .u8 (s[i + k].toNat : Int)) w := by
  rw [run_index_string w 9 s .i64 _ Try.underlying9, dif_pos (by omega)]
  congr 1

set_option maxRecDepth 100000 in
set_option maxHeartbeats 1000000 in
theorem matchAt_many (d : Bool) (b off n : Nat) (t : Nat → ByteArray) (s : ByteArray) (a e : Nat) (x : Int) (w : World) (hn2 : 2 ≤ n) (hn : n ≤ 1048576) (hs : s.size ≤ 1048576) (ht : ∀ k, k < n → (t k).size ≤ 1048576) (hlt : b < w.heap.size) (hg0 : 0 < w.heap.size) (hg : w.cell? ⟨0, 0, none⟩ = some (.int .i64 x))
    (hc : ∀ k, k < n → w.cell? ⟨b, off + k, none⟩ = some (.string (t k))) (hname : P.Name s a e) :
    Calls Try.prog 30 #[.agg #[.bool d, .slice (some ⟨b, off, none⟩) n n], .string s, .int .i64 (a : Int)] w fun r w' => r = .returned (.tuple #[.int .i64 ((e : Int) + 1), .bool (P.G (s.extract a e) t n (s.extract a e).size)]) ∧ Below w.heap.size w w' := by
  have hB0 : Below w.heap.size w (w.alloc (.cells #[.bool d, .slice (some ⟨b, off, none⟩) n n] 48)) := (Below.refl _ _).alloc (Nat.le_refl _) _
  have HN := hide (nameAt_any s a e (w.alloc (.cells #[.bool d, .slice (some ⟨b, off, none⟩) n n] 48)) hs hname)
  have hz := P.size_piece s a e hname.room hname.le
  have hro := hname.room
  have HM := hide (matchStars_any d b off n t (s.extract a e) x (w.alloc (.cells #[.bool d, .slice (some ⟨b, off, none⟩) n n] 48)) hn2 hn (by rw [hz]; omega) ht (Nat.lt_of_lt_of_le hlt hB0.size) (Nat.lt_of_lt_of_le hg0 hB0.size) ((hB0.cell (p := ⟨0, 0, none⟩) hg0).trans hg) (fun k hk => (hB0.cell (p := ⟨b, off + k, none⟩) hlt).trans (hc k hk)))
  have HB0 := hide hB0
  have h1 : ((n : Int) == 1) = false := by simp; omega
  clear hB0 hc hg hname hz hro ht
  generalize P.G (s.extract a e) t n (s.extract a e).size = gg at HM ⊢
  go_enter Try.func30, Try.ntmps30
  go_wp2_with fail
  refine HN.out.mono ?_
  rintro e w' ⟨rfl, rfl⟩
  go_wp2_with fail
  refine HM.out.mono ?_
  rintro e w2 ⟨rfl, hb⟩
  go_wp2_with fail
  go_ret2
  exact ⟨rfl, HB0.out.trans (hb.mono HB0.out.size)⟩

set_option maxRecDepth 100000 in
set_option maxHeartbeats 1000000 in
theorem matchAt_one (d : Bool) (b off : Nat) (t : Nat → ByteArray) (s : ByteArray) (a e : Nat) (w : World) (hs : s.size ≤ 1048576) (ht : (t 0).size ≤ 1048576) (hlt : b < w.heap.size)
    (hc : w.cell? ⟨b, off, none⟩ = some (.string (t 0))) (hf : P.free (t 0)) (hname : P.Name s a e) :
    Calls Try.prog 30 #[.agg #[.bool d, .slice (some ⟨b, off, none⟩) 1 1], .string s, .int .i64 (a : Int)] w fun r w' => r = .returned (.tuple #[.int .i64 (nextI 1 (P.G (s.extract a e) t 1 (s.extract a e).size) e), .bool (P.G (s.extract a e) t 1 (s.extract a e).size)]) ∧ Below w.heap.size w w' := by
  have hB0 : Below w.heap.size w (w.alloc (.cells #[.bool d, .slice (some ⟨b, off, none⟩) 1 1] 48)) := (Below.refl _ _).alloc (Nat.le_refl _) _
  have hcell := (hB0.cell (p := ⟨b, off, none⟩) hlt).trans hc
  have HB0 := hide hB0
  have i0 := at_any b off 1 1 0 0 rfl (by omega)
  simp only [Nat.add_zero] at i0
  have hle := hname.le
  have hro := hname.room
  have hz := P.size_piece s a s.size (Nat.le_refl _) (by omega)
  have HP := fun W => hide (pfx_call (s.extract a s.size) (t 0) W)
  have hocc : pfxB (s.extract a s.size) (t 0) = true ↔ (a + (t 0).size ≤ s.size ∧ P.occB s (t 0) a) := by
    rw [pfx_iff, hz]
    constructor
    · rintro ⟨h1, h2⟩
      refine ⟨by omega, fun j hj => ?_⟩
      rw [← P.B_piece s a s.size j (Nat.le_refl _) (by omega) (by omega), ← h2 j hj, Nat.zero_add]
    · rintro ⟨h1, h2⟩
      refine ⟨by omega, fun j hj => ?_⟩
      rw [Nat.zero_add, P.B_piece s a s.size j (Nat.le_refl _) (by omega) (by omega)]
      exact h2 j hj
  have HO := hide hocc
  have HF := hide hf
  have HNM := hide hname
  have HOG := hide (P.one_glob s t a e hname)
  clear hc hB0 hocc hf hname hz
  cases hpf : pfxB (s.extract a s.size) (t 0) with
  | false =>
    have HG : Hid (P.G (s.extract a e) t 1 (s.extract a e).size = false) := by
      show _ = _
      cases hgv : P.G (s.extract a e) t 1 (s.extract a e).size with
      | false => rfl
      | true =>
        obtain ⟨h1, h2⟩ := HOG.out.1 hgv
        rw [HO.out.2 ⟨by omega, h2⟩] at hpf
        cases hpf
    rw [HG.out]
    go_enter Try.func30, Try.ntmps30
    go_wp2_with fail
    go_quiet ((go_at_call 35; exact Calls.quiet_of_same (HP _).out))
    go_wp2_with fail
    go_ret2
    exact ⟨rfl, below_drewN HB0.out _⟩
  | true =>
    obtain ⟨hsz, hoc⟩ := HO.out.1 hpf
    have HOC := hide hoc
    clear hoc
    by_cases hlt2 : a + (t 0).size < s.size
    · have hl : decide ((a : Int) + ((t 0).size : Int) < (s.size : Int)) = true := by simp; omega
      have hix := idx_add s a (t 0).size hlt2
      cases h47 : ((s[a + (t 0).size].toNat : Int) != 47) with
      | true =>
        have HG : Hid (P.G (s.extract a e) t 1 (s.extract a e).size = false) := by
          show _ = _
          cases hgv : P.G (s.extract a e) t 1 (s.extract a e).size with
          | false => rfl
          | true =>
            obtain ⟨h1, h2⟩ := HOG.out.1 hgv
            rcases HNM.out.stop with h3 | h3
            · omega
            · rw [h1, P.B_at s _ hlt2] at h3
              simp at h47
              omega
        rw [HG.out]
        go_enter Try.func30, Try.ntmps30
        go_wp2_with fail
        go_quiet ((go_at_call 35; exact Calls.quiet_of_same (HP _).out))
        go_wp2_with fail
        go_ret2
        exact ⟨rfl, below_drewN HB0.out _⟩
      | false =>
        have he : e = a + (t 0).size := P.one_yes s (t 0) a e HNM.out HF.out HOC.out hsz (Or.inr (by rw [P.B_at s _ hlt2]; simp at h47; omega))
        have HG : Hid (P.G (s.extract a e) t 1 (s.extract a e).size = true) := HOG.out.2 ⟨he, HOC.out⟩
        rw [HG.out]
        have HE := hide he
        clear he
        go_enter Try.func30, Try.ntmps30
        go_wp2_with fail
        go_quiet ((go_at_call 35; exact Calls.quiet_of_same (HP _).out))
        go_wp2_with fail
        go_ret2
        exact ⟨by rw [HE.out]; rfl, below_drewN HB0.out _⟩
    · have hl : decide ((a : Int) + ((t 0).size : Int) < (s.size : Int)) = false := by simp; omega
      have he : e = a + (t 0).size := P.one_yes s (t 0) a e HNM.out HF.out HOC.out hsz (Or.inl (by omega))
      have HG : Hid (P.G (s.extract a e) t 1 (s.extract a e).size = true) := HOG.out.2 ⟨he, HOC.out⟩
      rw [HG.out]
      have HE := hide he
      clear he
      go_enter Try.func30, Try.ntmps30
      go_wp2_with fail
      go_quiet ((go_at_call 35; exact Calls.quiet_of_same (HP _).out))
      go_wp2_with fail
      go_ret2
      exact ⟨by rw [HE.out]; rfl, below_drewN HB0.out _⟩

theorem matchAt_any (d : Bool) (b off n : Nat) (t : Nat → ByteArray) (s : ByteArray) (a e : Nat) (x : Int) (w : World) (hn1 : 1 ≤ n) (hn : n ≤ 1048576) (hs : s.size ≤ 1048576) (ht : ∀ k, k < n → (t k).size ≤ 1048576) (hlt : b < w.heap.size) (hg0 : 0 < w.heap.size) (hg : w.cell? ⟨0, 0, none⟩ = some (.int .i64 x))
    (hc : ∀ k, k < n → w.cell? ⟨b, off + k, none⟩ = some (.string (t k))) (hf : ∀ k, k < n → P.free (t k)) (hname : P.Name s a e) :
    Calls Try.prog 30 #[.agg #[.bool d, .slice (some ⟨b, off, none⟩) n n], .string s, .int .i64 (a : Int)] w fun r w' => r = .returned (.tuple #[.int .i64 (nextI n (P.G (s.extract a e) t n (s.extract a e).size) e), .bool (P.G (s.extract a e) t n (s.extract a e).size)]) ∧ Below w.heap.size w w' := by
  by_cases h1 : n = 1
  · subst h1
    exact matchAt_one d b off t s a e w hs (ht 0 (by omega)) hlt (hc 0 (by omega)) (hf 0 (by omega)) hname
  · rw [show nextI n (P.G (s.extract a e) t n (s.extract a e).size) e = (e : Int) + 1 from by unfold nextI; rw [if_neg h1]; split <;> rfl]
    exact matchAt_many d b off n t s a e x w (by omega) hn hs ht hlt hg0 hg hc hname

set_option maxRecDepth 100000 in
set_option maxHeartbeats 1000000 in
theorem zzMatchAt_any (d : Bool) (p : Option Addr) (n : Nat) (t : Nat → ByteArray) (s : ByteArray) (a e : Nat) (x : Int) (w : World) (hn1 : 1 ≤ n) (hn : n ≤ 1048576) (hs : s.size ≤ 1048576) (ht : ∀ k, k < n → (t k).size ≤ 1048576) (hg0 : 0 < w.heap.size) (hg : w.cell? ⟨0, 0, none⟩ = some (.int .i64 x))
    (h : Sl w p n (fun k => .string (t k))) (hf : ∀ k, k < n → P.free (t k)) (hname : P.Name s a e) :
    Calls Try.prog 29 #[.bool d, .slice p n n, .string s, .int .i64 (a : Int)] w fun r w' => r = .returned (.tuple #[.int .i64 (nextI n (P.G (s.extract a e) t n (s.extract a e).size) e), .bool (P.G (s.extract a e) t n (s.extract a e).size)]) ∧ Below w.heap.size w w' := by
  rcases h with h0 | ⟨b, off, rfl, hlt, hc⟩
  · omega
  have HM := hide (matchAt_any d b off n t s a e x w hn1 hn hs ht hlt hg0 hg hc hf hname)
  clear hc hg hname ht hf
  generalize P.G (s.extract a e) t n (s.extract a e).size = gg at HM ⊢
  generalize nextI n gg e = nx at HM ⊢
  go_enter Try.func29, Try.ntmps29
  go_wp2_with fail
  refine HM.out.mono ?_
  rintro e w2 ⟨rfl, hb⟩
  go_wp2_with fail
  go_ret2
  exact ⟨rfl, hb⟩
end Go.Proofs.Qxb6602242a
