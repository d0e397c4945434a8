/-
  THE WALKS of seat b6602242a, part 3: nameAt, matchStars.
-/
import Derived.Test.Qxb6602242aWalks1
namespace Go.Proofs.Qxb6602242a
open Go.RowKit

/-! ### nameAt -/
def slashI (s : ByteArray) (a : Nat) : Int := Lib.indexByte (s.data.toList.drop a) 47
theorem slash_call (s : ByteArray) (a : Nat) (w : World) :
    Calls Try.prog 36 #[.string (s.extract a s.size), .int .u8 47] w fun e w' => e = .returned (.int .i64 (slashI s a)) ∧ w' = w := by
  unfold slashI
  rw [← Lib.extract_to_end]
  exact Try.strings_IndexByte _ 47 w
theorem slash_neg (s : ByteArray) (a e : Nat) (hn : P.Name s a e) (h : slashI s a < 0) : e = s.size := by
  rcases hn.stop with h1 | h1
  · exact h1
  · have hge := Lib.indexByte_ge (s.data.toList.drop a) 47
    unfold slashI at h
    have := Lib.indexByte_none (by omega : Lib.indexByte (s.data.toList.drop a) 47 = -1) (e - a)
    have hle := hn.le
    rw [List.getElem?_drop, show a + (e - a) = e from by omega] at this
    exact absurd ((P.B_data s e 47).2 h1) this
theorem slash_pos (s : ByteArray) (a e : Nat) (hn : P.Name s a e) (h : ¬ slashI s a < 0) : slashI s a = ((e - a : Nat) : Int) ∧ e < s.size := by
  have hle := hn.le
  obtain ⟨x, hx⟩ := Int.eq_ofNat_of_zero_le (by omega : 0 ≤ slashI s a)
  obtain ⟨h1, h2⟩ := Lib.indexByte_some hx
  rw [List.getElem?_drop] at h1
  have h3 := (P.B_data s (a + x) 47).1 h1
  have h4 : a + x < s.size := P.B_in s _ (by rw [h3]; decide)
  have h5 : e = a + x := by
    by_cases hlt : a + x < e
    · exact absurd h3 (hn.inner _ (by omega) hlt)
    · by_cases hgt : e < a + x
      · rcases hn.stop with h6 | h6
        · omega
        · have := h2 (e - a) (by omega)
          rw [List.getElem?_drop, show a + (e - a) = e from by omega] at this
          exact absurd ((P.B_data s e 47).2 h6) this
      · omega
  rw [hx]
  exact ⟨by omega, by omega⟩
theorem slice_mid (s : ByteArray) (p q : Nat) (h : p + q ≤ s.size) (w : World) : Sem.run Try.prog (Instr.slice 9 (.string s) (some (.int .i64 (p : Int))) (some (.int .i64 ((p : Int) + (q : Int)))) none) w = .ok (.string (s.extract p (p + q))) w := by
  have := run_slice_string (P := Try.prog) w 9 s .i64 .i64 (p : Int) ((p : Int) + (q : Int)) Try.underlying9 (by omega) (by omega) (by omega)
  rw [show ((p : Int) + (q : Int)).toNat = p + q from by omega, Int.toNat_natCast] at this
  exact this

set_option maxRecDepth 100000 in
set_option maxHeartbeats 400000 in
theorem nameAt_any (s : ByteArray) (a e : Nat) (w : World) (hs : s.size ≤ 1048576) (hn : P.Name s a e) :
    Calls Try.prog 31 #[.string s, .int .i64 (a : Int)] w fun r w' => r = .returned (.tuple #[.string (s.extract a e), .int .i64 ((e : Int) + 1)]) ∧ w' = w := by
  have hle := hn.le
  have hro := hn.room
  by_cases hx : slashI s a < 0
  · have he := slash_neg s a e hn hx
    subst he
    go_enter Try.func31, Try.ntmps31
    go_wp2_with (go_at_call 36; refine (slash_call _ _ _).mono ?_; rintro e w' ⟨rfl, rfl⟩)
    go_ret2
    exact ⟨rfl, rfl⟩
  · obtain ⟨h1, h2⟩ := slash_pos s a e hn hx
    have HC := fun W => hide (slash_call s a W)
    rw [h1] at HC
    obtain ⟨d, rfl⟩ : ∃ d, e = a + d := ⟨e - a, by omega⟩
    rw [show a + d - a = d from by omega] at HC
    have hsl := slice_mid s a d (by omega)
    clear hx h1 hn
    go_enter Try.func31, Try.ntmps31
    go_wp2_with (go_at_call 36; refine (HC _).out.mono ?_; rintro e w' ⟨rfl, rfl⟩)
    go_ret2
    exact ⟨by go_num, rfl⟩

/-! ### matchStars -/
theorem wrap_sub1 (n : Nat) (h1 : 1 ≤ n) (h2 : n ≤ 1048576) : IntKind.i64.wrap ((n : Int) - 1) = (n : Int) - 1 := by
  have e : IntKind.i64.wrap ((n : Int) - 1) = if ((n : Int) - 1) % 18446744073709551616 ≥ 9223372036854775808 then ((n : Int) - 1) % 18446744073709551616 - 18446744073709551616 else ((n : Int) - 1) % 18446744073709551616 := by
    simp [IntKind.wrap, IntKind.signed, IntKind.bits]
  rw [e]
  split <;> omega

theorem at_any (b off n c : Nat) (i : Nat) (j : Int) (hj : j = i) (h : i < n) (w : World) : (Instr.indexAt 37 (.slice (some ⟨b, off, none⟩) n c) (.int .i64 j)).run Try.prog w = .ok (.pointer (some ⟨b, off + i, none⟩)) w := by
  subst hj
  have hu : Try.prog.underlying 37 = some (.slice (Try.prog.elem 37)) := Try.underlying37
  rw [run_indexAt_slice w 37 ⟨b, off, none⟩ n c .i64 (i : Int) hu, if_pos (by omega)]
  have hsz : (sizeOf (Try.prog.elem 37)).run Try.prog w = .ok 1 w := Try.sizeOf9 w
  rw [hsz]
  simp only [Result.andThen, Int.toNat_natCast, Nat.mul_one]
  rw [Go.WideShapes.add_plain]

def pfxB (s p : ByteArray) : Bool := Lib.hasPrefix s.data.toList p.data.toList
def sfxB (s p : ByteArray) : Bool := Lib.hasSuffix s.data.toList p.data.toList
theorem pfx_call (s p : ByteArray) (w : World) : Calls Try.prog 35 #[.string s, .string p] w fun e w' => e = .returned (.bool (pfxB s p)) ∧ w' = w := Try.strings_HasPrefix s p w
theorem sfx_call (s p : ByteArray) (w : World) (hs : s.size ≤ 1048576) : Calls Try.prog 37 #[.string s, .string p] w fun e w' => e = .returned (.bool (sfxB s p)) ∧ w' = w := Try.strings_HasSuffix s p w (by omega)
theorem pfx_iff (s p : ByteArray) : pfxB s p = true ↔ (p.size ≤ s.size ∧ P.occB s p 0) := by
  have := P.hasPrefix_iff s p 0 (Nat.zero_le _)
  rw [List.drop_zero, Nat.zero_add] at this
  exact this
theorem sfx_iff (s p : ByteArray) (hp : p.size ≤ s.size) : sfxB s p = true ↔ P.occB s p (s.size - p.size) := P.hasSuffix_iff s p hp
theorem slice_sub (s : ByteArray) (p q : Nat) (h : p + q ≤ s.size) (w : World) : Sem.run Try.prog (Instr.slice 9 (.string s) (some (.int .i64 (p : Int))) (some (.int .i64 ((s.size : Int) - (q : Int)))) none) w = .ok (.string (s.extract p (s.size - q))) w := by
  have := run_slice_string (P := Try.prog) w 9 s .i64 .i64 (p : Int) ((s.size : Int) - (q : Int)) Try.underlying9 (by omega) (by omega) (by omega)
  rw [show ((s.size : Int) - (q : Int)).toNat = s.size - q from by omega, Int.toNat_natCast] at this
  exact this

theorem extract_again (s : ByteArray) (g E a : Nat) (hE : E ≤ s.size) (hg : g ≤ E) (ha : g + a ≤ E) : (s.extract g E).extract a (s.extract g E).size = s.extract (g + a) E := by
  rw [Lib.extract_eq, Lib.extract_eq s (g + a) E, Lib.extract_data, P.size_piece s g E hE hg]
  congr 2
  rw [List.drop_take, List.drop_drop, List.take_take]
  congr 1
  omega
theorem slice_rest (s : ByteArray) (g E x q : Nat) (hE : E ≤ s.size) (hg : g ≤ E) (h : g + x + q ≤ E) (w : World) : Sem.run Try.prog (Instr.slice 9 (.string (s.extract g E)) (some (.int .i64 ((x : Int) + (q : Int)))) none none) w = .ok (.string (s.extract (g + x + q) E)) w := by
  have hz := P.size_piece s g E hE hg
  have := run_slice_string_l (P := Try.prog) (w := w) (t := 9) (s := s.extract g E) Try.underlying9 .i64 ((x : Int) + (q : Int)) (by omega) (by rw [hz]; omega)
  rw [show ((x : Int) + (q : Int)).toNat = x + q from by omega, extract_again s g E (x + q) hE hg (by omega), ← Nat.add_assoc] at this
  exact this
def idxI (s : ByteArray) (g E : Nat) (p : ByteArray) : Int := Lib.index (s.extract g E).data.toList p.data.toList
theorem idx_call (s : ByteArray) (g E : Nat) (p : ByteArray) (x : Int) (w : World) (hs : s.size ≤ 1048576) (hE : E ≤ s.size) (hg : g ≤ E) (hm : w.cell? ⟨0, 0, none⟩ = some (.int .i64 x)) :
    Calls Try.prog 38 #[.string (s.extract g E), .string p] w fun e w' => e = .returned (.int .i64 (idxI s g E p)) ∧ w' = w :=
  Try.strings_Index _ p x w (by rw [P.size_piece s g E hE hg]; omega) hm

set_option maxRecDepth 100000 in
set_option maxHeartbeats 1000000 in
theorem matchStars_any (d : Bool) (b off n : Nat) (t : Nat → ByteArray) (s : ByteArray) (x : Int) (w : World) (hn2 : 2 ≤ n) (hn : n ≤ 1048576) (hs : s.size ≤ 1048576) (ht : ∀ k, k < n → (t k).size ≤ 1048576) (hlt : b < w.heap.size) (hg0 : 0 < w.heap.size) (hg : w.cell? ⟨0, 0, none⟩ = some (.int .i64 x))
    (hc : ∀ k, k < n → w.cell? ⟨b, off + k, none⟩ = some (.string (t k))) :
    Calls Try.prog 33 #[.agg #[.bool d, .slice (some ⟨b, off, none⟩) n n], .string s] w fun e w' => e = .returned (.bool (P.G s t n s.size)) ∧ Below w.heap.size w w' := by
  have hB0 : Below w.heap.size w (w.alloc (.cells #[.bool d, .slice (some ⟨b, off, none⟩) n n] 48)) := (Below.refl _ _).alloc (Nat.le_refl _) _
  have HCELL := fun k (hk : k < n) => hide ((hB0.cell (p := ⟨b, off + k, none⟩) hlt).trans (hc k hk))
  have c0 := (HCELL 0 (by omega)).out
  have c1 := (HCELL (n - 1) (by omega)).out
  have hwr := wrap_sub1 n (by omega) (by omega)
  have i0 := at_any b off n n 0 0 rfl (by omega)
  have i1 := at_any b off n n (n - 1) ((n : Int) - 1) (by omega) (by omega)
  simp only [Nat.add_zero] at i0 c0
  go_enter Try.func33, Try.ntmps33
  go_wp2_with fail
  go_quiet (fail)
  have hi1 : n = (n - 1) + 1 := by omega
  have f0 := ht 0 (by omega)
  have f1 := ht (n - 1) (by omega)
  by_cases hroom : s.size < (t 0).size + (t (n - 1)).size
  · have HG : Hid (P.G s t n s.size = false) := by show _ = _; rw [hi1]; exact P.no_room s t (n - 1) (by omega) hroom
    have HB : Hid (Below w.heap.size w ((w.alloc (.cells #[.bool d, .slice (some ⟨b, off, none⟩) n n] 48)).drewN nq)) := below_drewN hB0 nq
    clear hi1
    go_wp2_with fail
    go_ret
    exact ⟨ret_bool HG.out.symm, HB.out⟩
  · cases hpf : pfxB s (t 0) with
    | false =>
      have HG : Hid (P.G s t n s.size = false) := by
        show _ = _
        rw [hi1]
        refine P.no_prefix s t (n - 1) s.size (fun ho => ?_)
        rw [(pfx_iff s (t 0)).2 ⟨by omega, ho⟩] at hpf
        cases hpf
      have HB : Hid (Below w.heap.size w ((w.alloc (.cells #[.bool d, .slice (some ⟨b, off, none⟩) n n] 48)).drewN nq)) := below_drewN hB0 nq
      clear hi1
      go_wp2_with (go_at_call 35; refine (pfx_call _ _ _).mono ?_; rintro e w' ⟨rfl, rfl⟩)
      go_ret
      exact ⟨ret_bool HG.out.symm, HB.out⟩
    | true =>
      cases hsf : sfxB s (t (n - 1)) with
      | false =>
        have HG : Hid (P.G s t n s.size = false) := by
          show _ = _
          rw [hi1]
          refine P.no_suffix s t (n - 1) (s.size - (t (n - 1)).size) (by omega) (by omega) (fun ho => ?_)
          rw [(sfx_iff s (t (n - 1)) (by omega)).2 ho] at hsf
          cases hsf
        have HB : Hid (Below w.heap.size w ((w.alloc (.cells #[.bool d, .slice (some ⟨b, off, none⟩) n n] 48)).drewN nq)) := below_drewN hB0 nq
        clear hi1
        go_wp2_with (first | (go_at_call 35; refine (pfx_call _ _ _).mono ?_; rintro e w' ⟨rfl, rfl⟩) | (go_at_call 37; refine (sfx_call _ _ _ hs).mono ?_; rintro e w' ⟨rfl, rfl⟩))
        go_ret
        exact ⟨ret_bool HG.out.symm, HB.out⟩
      | true =>
        have hsl := slice_sub s (t 0).size (t (n - 1)).size (by omega)
        have hroomd : decide ((s.size : Int) < ((t 0).size : Int) + ((t (n - 1)).size : Int)) = false := by simp; omega
        have HL1 : Hid (P.Least s t 1 (t 0).size) := P.least_one s t ((pfx_iff s (t 0)).1 hpf).2
        have HSF : Hid (P.occB s (t (n - 1)) (s.size - (t (n - 1)).size)) := (sfx_iff s (t (n - 1)) (by omega)).1 hsf
        have HI1 := hide hi1
        have HGM : Hid (((w.alloc (.cells #[.bool d, .slice (some ⟨b, off, none⟩) n n] 48)).drewN nq).cell? ⟨0, 0, none⟩ = some (.int .i64 x)) := (hB0.cell (p := ⟨0, 0, none⟩) hg0).trans hg
        have HCW : ∀ k, k < n → Hid (((w.alloc (.cells #[.bool d, .slice (some ⟨b, off, none⟩) n n] 48)).drewN nq).cell? ⟨b, off + k, none⟩ = some (.string (t k))) := fun k hk => (HCELL k hk)
        have HB : Hid (Below w.heap.size w ((w.alloc (.cells #[.bool d, .slice (some ⟨b, off, none⟩) n n] 48)).drewN nq)) := below_drewN hB0 nq
        have HT := hide ht
        clear hi1 HCELL hc hg hB0 c0 c1 ht i0 i1
        go_wp2_with (first | (go_at_call 35; refine (pfx_call _ _ _).mono ?_; rintro e w' ⟨rfl, rfl⟩) | (go_at_call 37; refine (sfx_call _ _ _ hs).mono ?_; rintro e w' ⟨rfl, rfl⟩))
        go_loop [7, 58] (fun r i => ∃ g k : Nat, r = .string (s.extract g (s.size - (t (n - 1)).size)) ∧ i = .int .i64 (k : Int) ∧ k ≤ n - 1 - 1 ∧ g ≤ s.size - (t (n - 1)).size ∧ Hid (P.Least s t (k + 1) g)) (fun _ i => n - (intOf i).toNat)
        case atStart => exact ⟨(t 0).size, 0, rfl, rfl, Nat.zero_le _, by omega, HL1⟩
        case round =>
          obtain ⟨g, k, rfl, rfl, hk, hg, HL⟩ := hrel
          by_cases hkn : k < n - 1 - 1
          · have hcell := (HCW (k + 1) (by omega)).out
            rw [show off + (k + 1) = off + 1 + k from by omega] at hcell
            have hix := at_any b (off + 1) (n - 1 - 1) (n - 1) k (k : Int) rfl hkn
            have hpt := HT.out (k + 1) (by omega)
            have HQ := hide (idx_call s g (s.size - (t (n - 1)).size) (t (k + 1)) x _ hs (by omega) hg HGM.out)
            by_cases hx : idxI s g (s.size - (t (n - 1)).size) (t (k + 1)) < 0
            · have HG : Hid (P.G s t n s.size = false) := by
                show _ = _
                have h1 := P.miss s t (k + 1) g (s.size - (t (n - 1)).size) (by omega) HL.out (P.index_miss s (t (k + 1)) g (s.size - (t (n - 1)).size) (by omega) hg hx)
                have h2 := P.no_low_more s t (k + 1 + 1) (s.size - (t (n - 1)).size) (by omega) h1 (n - 1 - (k + 1 + 1))
                rw [show k + 1 + 1 + (n - 1 - (k + 1 + 1)) = n - 1 from by omega] at h2
                rw [HI1.out]
                exact P.no_final s t (n - 1) (s.size - (t (n - 1)).size) (by omega) h2 (by omega)
              go_wp2_with fail
              refine HQ.out.mono ?_
              rintro e w' ⟨rfl, rfl⟩
              go_wp2_with fail
              go_ret
              exact ⟨ret_bool HG.out.symm, HB.out⟩
            · obtain ⟨y, hy⟩ := Int.eq_ofNat_of_zero_le (by omega : 0 ≤ idxI s g (s.size - (t (n - 1)).size) (t (k + 1)))
              obtain ⟨q1, q2, q3⟩ := P.index_hit s (t (k + 1)) g (s.size - (t (n - 1)).size) y (by omega) hg hy
              have HL2 := hide (P.hit s t (k + 1) g y (by omega) HL.out q2 q3)
              have hrest := slice_rest s g (s.size - (t (n - 1)).size) y (t (k + 1)).size (by omega) hg q1
              rw [hy] at HQ
              clear hx hy q2 q3
              go_wp2_with fail
              refine HQ.out.mono ?_
              rintro e w' ⟨rfl, rfl⟩
              go_wp2_with fail
              exact ⟨⟨g + y + (t (k + 1)).size, k + 1, rfl, by go_num, by omega, by omega, HL2⟩, by simp [intOf]; omega⟩
          · have HG : Hid (P.G s t n s.size = true) := by
              show _ = _
              have h1 := HL.out
              rw [show k + 1 = n - 1 from by omega] at h1
              rw [HI1.out]
              exact P.final s t (n - 1) g (s.size - (t (n - 1)).size) (by omega) h1 hg (by omega) HSF.out
            go_wp2_with fail
            go_ret
            exact ⟨ret_bool HG.out.symm, HB.out⟩
end Go.Proofs.Qxb6602242a
