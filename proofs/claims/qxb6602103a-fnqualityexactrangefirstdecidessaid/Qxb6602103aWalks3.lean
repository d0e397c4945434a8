/-
  THE WALKS of seat b6602103a, part 3: zzCut, zzSpec, zzModelQuality, zzSameFloat.
-/
import Derived.Test.Qxb6602103aWalks2
namespace Go.Proofs.Qxb6602103a
open Go.RowKit

theorem star_list : M.star.toList = [42] := by decide +kernel
theorem spec_eq (rt rs t st : ByteArray) : M.spec rt rs t st = if (rt.toList == t.toList) = true then (if (rs.toList == st.toList) = true then 2 else if (rs.toList == [42]) = true then 1 else if (rt.toList == [42]) = true then 0 else -1) else (if (rt.toList == [42]) = true then 0 else -1) := by
  unfold M.spec M.eqS
  rw [star_list]
theorem spec_any (rt rs t st : ByteArray) (w : World) :
    Calls Try.prog 34 #[.string rt, .string rs, .string t, .string st] w fun e w' => e = .returned (.int .i64 (M.spec rt rs t st)) ∧ w' = w := by
  have HS := hide (spec_eq rt rs t st)
  go_enter Try.func34, Try.ntmps34
  go_wp2
  all_goals
    go_ret
    exact ⟨ret_int (by rw [HS.out]; simp_all), rfl⟩

theorem same_any (x : Nat) (w : World) :
    Calls Try.prog 15 #[.float .f64 x, .float .f64 x] w fun e w' => e = .returned (.bool true) ∧ w' = w := by
  go_enter Try.func15, Try.ntmps15
  go_wp2
  all_goals
    go_ret
    exact ⟨ret_bool (by simp_all), rfl⟩

theorem ret_str2 {a b c d : ByteArray} (h1 : a = c) (h2 : b = d) : Ending.returned (.tuple #[.string a, .string b]) = .returned (.tuple #[.string c, .string d]) := by rw [h1, h2]
theorem wrap_one (k : Nat) (h : k ≤ 1048576) : IntKind.i64.wrap ((k : Int) + 1) = (k : Int) + 1 := by
  have e : IntKind.i64.wrap ((k : Int) + 1) = if ((k : Int) + 1) % 18446744073709551616 ≥ 9223372036854775808 then ((k : Int) + 1) % 18446744073709551616 - 18446744073709551616 else ((k : Int) + 1) % 18446744073709551616 := by
    simp [IntKind.wrap, IntKind.signed, IntKind.bits]
  rw [e]
  split <;> omega
theorem slice_to (s : ByteArray) (k : Nat) (h : k ≤ s.size) (w : World) : Sem.run Try.prog (Instr.slice 9 (.string s) none (some (.int .i64 (k : Int))) none) w = .ok (.string (s.extract 0 k)) w := by
  have := run_slice_string_h (P := Try.prog) (w := w) (t := 9) (s := s) Try.underlying9 .i64 (k : Int) (by omega) (by omega)
  rw [Int.toNat_natCast] at this
  exact this
theorem slice_from (s : ByteArray) (k : Nat) (h : k + 1 ≤ s.size) (w : World) : Sem.run Try.prog (Instr.slice 9 (.string s) (some (.int .i64 ((k : Int) + 1))) none none) w = .ok (.string (s.extract (k + 1) s.size)) w := by
  have := run_slice_string_l (P := Try.prog) (w := w) (t := 9) (s := s) Try.underlying9 .i64 ((k : Int) + 1) (by omega) (by omega)
  rw [show ((k : Int) + 1).toNat = k + 1 from by omega] at this
  exact this
theorem byte_ne (a : UInt8) (n : UInt8) (h : ((a.toNat : Int) == (n.toNat : Int)) = false) : a ≠ n := by
  intro e; subst e; simp at h
theorem byte_eq (a : UInt8) (n : UInt8) (h : ((a.toNat : Int) == (n.toNat : Int)) = true) : a = n := by
  simp at h; exact UInt8.toNat_inj.1 (by omega)

def CutPost (s : ByteArray) (w : World) (e : Ending) (w' : World) : Prop := e = .returned (.tuple #[.string (M.before s), .string (M.after s)]) ∧ ∃ q, w' = w.drewN q
theorem cut_hit (s : ByteArray) (k : Nat) (h : M.slash s = k) : M.before s = s.extract 0 k ∧ M.after s = s.extract (k + 1) s.size := by
  unfold M.before M.after
  rw [h]
  simp
theorem cut_miss (s : ByteArray) (h : ¬ 0 ≤ M.slash s) : M.before s = s ∧ M.after s = ⟨#[]⟩ := by
  unfold M.before M.after
  rw [if_neg h, if_neg h]
  exact ⟨rfl, rfl⟩

set_option maxRecDepth 100000 in
set_option maxHeartbeats 400000 in
theorem zzCut_any (s : ByteArray) (w : World) (hs : s.size ≤ 1048576) :
    Calls Try.prog 18 #[.string s] w fun e w' => CutPost s w e w' := by
  unfold CutPost
  go_enter Try.func18, Try.ntmps18
  go_wp2
  go_loop [4] (fun i => ∃ k : Nat, i = .int .i64 (k : Int) ∧ k ≤ s.size ∧ Hid (∀ j, (hj : j < s.size) → j < k → s[j] ≠ 47)) (fun i => s.size - (intOf i).toNat)
  case atStart => exact ⟨0, rfl, Nat.zero_le _, fun j _ h => by omega⟩
  case round =>
    obtain ⟨k, rfl, hk, HR⟩ := hrel
    by_cases hlt : k < s.size
    · cases h47 : ((s[k].toNat : Int) == 47) with
      | true =>
        have HF := hide (cut_hit s k (M.slash_at s k hlt (fun j hj => HR.out j (by omega) hj) (byte_eq s[k] 47 h47)))
        have h1 := slice_to s k (by omega)
        have h2 := slice_from s k (by omega)
        have h3 := wrap_one k (by omega)
        go_wp2_with fail
        go_quiet (fail)
        go_wp2_with fail
        go_ret2
        exact ⟨ret_str2 HF.out.1.symm HF.out.2.symm, _, rfl⟩
      | false =>
        have HN := hide (byte_ne s[k] 47 h47)
        go_wp2
        go_round
        case rel => exact ⟨k + 1, by go_num, by omega, fun j hj h => by
          by_cases hjk : j = k
          · subst hjk; exact HN.out
          · exact HR.out j hj (by omega)⟩
        case measure => simp [intOf]; omega
    · have HF := hide (cut_miss s (M.slash_none s (fun j hj => HR.out j hj (by omega))))
      go_wp2
      go_ret2
      exact ⟨ret_str2 HF.out.1.symm HF.out.2.symm, 0, rfl⟩

/-- What zzModelQuality answers. -/
def QPost (sp : Nat → Int) (q : Nat → Nat) (n : Nat) (w : World) (e : Ending) (w' : World) : Prop := (∃ (s : Int) (x : Nat), e = .returned (.float .f64 x) ∧ M.Inv sp q n s x) ∧ Below w.heap.size w w'
def spAt (t1 t2 : Nat → ByteArray) (m : ByteArray) (k : Nat) : Int := M.spec (t1 k) (t2 k) (M.before m) (M.after m)
theorem spAt_bd (t1 t2 : Nat → ByteArray) (m : ByteArray) (k : Nat) : -1 ≤ spAt t1 t2 m k ∧ spAt t1 t2 m k ≤ 2 := M.spec_bd _ _ _ _

set_option maxRecDepth 100000 in
set_option maxHeartbeats 1000000 in
theorem model_any (a1 a2 a3 : Option Addr) (n c1 c2 c3 : Nat) (t1 t2 : Nat → ByteArray) (q : Nat → Nat) (m : ByteArray) (w : World) (hn : n ≤ 1048576) (hm : m.size ≤ 1048576)
    (h1 : Sl w a1 n (fun k => .string (t1 k))) (h2 : Sl w a2 n (fun k => .string (t2 k))) (h3 : Sl w a3 n (fun k => .float .f64 (q k))) :
    Calls Try.prog 16 #[.slice a1 n c1, .slice a2 n c2, .slice a3 n c3, .string m] w fun e w' => QPost (spAt t1 t2 m) q n w e w' := by
  unfold QPost
  rcases Nat.eq_zero_or_pos n with rfl | hpos
  · have HI := hide (M.inv_zero (spAt t1 t2 m) q)
    go_enter Try.func16, Try.ntmps16
    go_wp2_with (go_at_call 18; refine (zzCut_any _ _ hm).mono ?_; rintro e w' ⟨rfl, q0, rfl⟩)
    refine wp_loop_rounds 1 ?_
    rw [rounds_succ]
    go_wp2
    go_ret
    exact ⟨⟨-1, 0, rfl, HI.out⟩, below_drewN (Below.refl _ _) _⟩
  · rcases h1 with h0 | ⟨b1, o1, rfl, l1, hc1⟩
    · omega
    rcases h2 with h0 | ⟨b2, o2, rfl, l2, hc2⟩
    · omega
    rcases h3 with h0 | ⟨b3, o3, rfl, l3, hc3⟩
    · omega
    have HC1 := hide hc1
    have HC2 := hide hc2
    have HC3 := hide hc3
    clear hc1 hc2 hc3
    go_enter Try.func16, Try.ntmps16
    go_wp2_with (go_at_call 18; refine (zzCut_any _ _ hm).mono ?_; rintro e w' ⟨rfl, q0, rfl⟩)
    go_loopw [11, 12] (fun s i wr => ∃ (s' : Int) (k : Nat), s = .int .i64 s' ∧ i = .int .i64 (k : Int) ∧ k ≤ n ∧ Hid (∃ r, wr = w.drewN r) ∧ Hid (M.Best (spAt t1 t2 m) k s')) (fun _ i _ => n - (intOf i).toNat)
    case atStart => exact ⟨-1, 0, rfl, rfl, Nat.zero_le _, ⟨q0, rfl⟩, M.best_zero _⟩
    case round =>
      obtain ⟨s, k, rfl, rfl, hk, HW, HB⟩ := hrel
      by_cases hkn : k < n
      · have g1 : wr.cell? ⟨b1, o1 + k, none⟩ = some (.string (t1 k)) := by obtain ⟨r, e⟩ := HW.out; rw [e]; exact HC1.out k hkn
        have g2 : wr.cell? ⟨b2, o2 + k, none⟩ = some (.string (t2 k)) := by obtain ⟨r, e⟩ := HW.out; rw [e]; exact HC2.out k hkn
        have hk' : (k : Int) < (n : Int) := by omega
        have hsp := spAt_bd t1 t2 m k
        have HS : ∀ W : World, Hid (Calls Try.prog 34 #[.string (t1 k), .string (t2 k), .string (M.before m), .string (M.after m)] W fun e w' => e = .returned (.int .i64 (spAt t1 t2 m k)) ∧ w' = W) := fun W => hide (spec_any (t1 k) (t2 k) (M.before m) (M.after m) W)
        have HN := hide (HB.out)
        have hbd : -1 ≤ s ∧ s ≤ 2 := ⟨HB.out.1, HB.out.2.1⟩
        by_cases hgt : s < spAt t1 t2 m k
        · have HB2 := hide (M.best_more (spAt_bd t1 t2 m) HB.out hgt)
          go_wp2_with fail
          go_quiet ((go_at_call 34; exact Calls.quiet_of_same (HS _).out))
          go_wp2_with fail
          go_roundw
          case rel => exact ⟨_, k + 1, rfl, by go_num, by omega, by obtain ⟨r, e⟩ := HW.out; exact ⟨r + nq, by rw [e]; exact World.drewN_drewN _ _ _⟩, HB2⟩
          case measure => simp [intOf]; omega
        · have HB2 := hide (M.best_same HB.out hgt)
          go_wp2_with fail
          go_quiet ((go_at_call 34; exact Calls.quiet_of_same (HS _).out))
          go_wp2_with fail
          go_roundw
          case rel => exact ⟨_, k + 1, rfl, by go_num, by omega, by obtain ⟨r, e⟩ := HW.out; exact ⟨r + nq, by rw [e]; exact World.drewN_drewN _ _ _⟩, HB2⟩
          case measure => simp [intOf]; omega
      · have hke : k = n := by omega
        subst hke
        by_cases hneg : s < 0
        · have HI := hide (M.best_none q (spAt_bd t1 t2 m) HB.out hneg)
          go_wp2_with fail
          go_ret
          exact ⟨⟨-1, 0, rfl, HI.out⟩, by obtain ⟨r, e⟩ := HW.out; rw [e]; exact below_drewN (Below.refl _ _) _⟩
        · have hneg' : decide (s < 0) = false := by simpa using hneg
          go_wp2_with fail
          go_loopw [14] (fun i wr => ∃ j : Nat, i = .int .i64 (j : Int) ∧ j ≤ k ∧ Hid (∃ r, wr = w.drewN r) ∧ Hid (∀ i, i < j → spAt t1 t2 m i ≠ s)) (fun i _ => k - (intOf i).toNat)
          case atStart => exact ⟨0, rfl, Nat.zero_le _, HW, fun i hi => by omega⟩
          case round =>
            obtain ⟨j, rfl, hj, HW2, HNE⟩ := hrel
            by_cases hjk : j < k
            · have g1 : wr.cell? ⟨b1, o1 + j, none⟩ = some (.string (t1 j)) := by obtain ⟨r, e⟩ := HW2.out; rw [e]; exact HC1.out j hjk
              have g2 : wr.cell? ⟨b2, o2 + j, none⟩ = some (.string (t2 j)) := by obtain ⟨r, e⟩ := HW2.out; rw [e]; exact HC2.out j hjk
              have g3 : wr.cell? ⟨b3, o3 + j, none⟩ = some (.float .f64 (q j)) := by obtain ⟨r, e⟩ := HW2.out; rw [e]; exact HC3.out j hjk
              have hj' : (j : Int) < (k : Int) := by omega
              have HS : ∀ W : World, Hid (Calls Try.prog 34 #[.string (t1 j), .string (t2 j), .string (M.before m), .string (M.after m)] W fun e w' => e = .returned (.int .i64 (spAt t1 t2 m j)) ∧ w' = W) := fun W => hide (spec_any (t1 j) (t2 j) (M.before m) (M.after m) W)
              cases heq : (spAt t1 t2 m j == s) with
              | true =>
                have HI := hide (M.best_first q HB.out (by omega) hjk HNE.out (by simpa using heq))
                go_wp2_with fail
                go_quiet ((go_at_call 34; exact Calls.quiet_of_same (HS _).out))
                go_wp2_with fail
                go_ret
                exact ⟨⟨s, q j, rfl, HI.out⟩, by obtain ⟨r, e⟩ := HW2.out; rw [e]; exact below_drewN (below_drewN (Below.refl _ _) _) _⟩
              | false =>
                have HN2 : Hid (∀ i, i < j + 1 → spAt t1 t2 m i ≠ s) := fun i hi => by
                  by_cases hij : i = j
                  · subst hij; simpa using heq
                  · exact HNE.out i (by omega)
                go_wp2_with fail
                go_quiet ((go_at_call 34; exact Calls.quiet_of_same (HS _).out))
                go_wp2_with fail
                go_roundw
                case rel => exact ⟨j + 1, by go_num, by omega, by obtain ⟨r, e⟩ := HW2.out; exact ⟨r + nq, by rw [e]; exact World.drewN_drewN _ _ _⟩, HN2⟩
                case measure => simp [intOf]; omega
            · exact absurd (M.best_hit HB.out (by omega) (fun i hi => HNE.out i (by omega))) id
end Go.Proofs.Qxb6602103a
