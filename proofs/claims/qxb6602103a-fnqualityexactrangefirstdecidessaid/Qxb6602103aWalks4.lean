/-
  THE WALKS of seat b6602103a, part 4: quality.
-/
import Derived.Test.Qxb6602103aWalks3
namespace Go.Proofs.Qxb6602103a
open Go.RowKit

/-- A slice of media ranges in block B. -/
def Rng (w : World) (B n : Nat) (t1 t2 : Nat → ByteArray) (q : Nat → Nat) : Prop :=
  B < w.heap.size ∧ ∀ k, k < n → w.cell? ⟨B, k * 3, none⟩ = some (.string (t1 k)) ∧ w.cell? ⟨B, k * 3 + 1, none⟩ = some (.string (t2 k)) ∧ w.cell? ⟨B, k * 3 + 2, none⟩ = some (.float .f64 (q k))

theorem cut_call (m : ByteArray) (x : Int) (w : World) (hm : m.size ≤ 1048576) (hc : w.cell? ⟨0, 0, none⟩ = some (.int .i64 x)) :
    Calls Try.prog 38 #[.string m, .string ⟨#[47]⟩] w fun e w' => (∃ b : Bool, Hid (e = .returned (.tuple #[.string (M.before m), .string (M.after m), .bool b]))) ∧ ∃ q, w' = w.drewN q := by
  refine (Try.strings_Cut m ⟨#[47]⟩ x w (by omega) hc).mono ?_
  rintro e w' ⟨rfl, hq⟩
  refine ⟨⟨(Lib.cut m.data.toList [47]).2.2, ?_⟩, hq⟩
  rw [show (⟨#[47]⟩ : ByteArray).data.toList = [47] from rfl, M.cut_before, M.cut_after]
  exact rfl

attribute [local go_sem] run_store_float

set_option maxRecDepth 100000 in
set_option maxHeartbeats 1000000 in
theorem quality_any (B n : Nat) (t1 t2 : Nat → ByteArray) (q : Nat → Nat) (m : ByteArray) (x : Int) (w : World) (hn : n ≤ 1048576) (hm : m.size ≤ 1048576) (hc : w.cell? ⟨0, 0, none⟩ = some (.int .i64 x)) (hR : Rng w B n t1 t2 q) :
    Calls Try.prog 33 #[.slice (some ⟨B, 0, none⟩) n n, .string m] w fun e w' => QPost (spAt t1 t2 m) q n w e w' := by
  unfold QPost
  have HR := hide hR
  have hB := hR.1
  clear hR
  have HC := hide (cut_call m x w hm hc)
  go_enter Try.func33, Try.ntmps33
  go_wp2_with fail
  refine HC.out.mono ?_
  rintro e w1 ⟨⟨b, hb⟩, q0, rfl⟩
  have hb' := hb.out
  clear hb
  subst hb'
  go_wp2_with fail
  go_loopw [8, 9, 21] (fun y s i wr => ∃ (x : Nat) (s' : Int) (k : Nat), y = .float .f64 x ∧ s = .int .i64 s' ∧ i = .int .i64 (k : Int) ∧ k ≤ n ∧ Hid (Below w.heap.size w wr) ∧ Hid (M.Inv (spAt t1 t2 m) q k s' x)) (fun _ _ i _ => n - (intOf i).toNat)
  case atStart => exact ⟨0, -1, 0, rfl, rfl, rfl, Nat.zero_le _, below_drewN (Below.refl _ _) _, M.inv_zero _ _⟩
  case round =>
    obtain ⟨y, s, k, rfl, rfl, rfl, hk, HB, HI⟩ := hrel
    by_cases hkn : k < n
    · have g1 : wr.cell? ⟨B, k * 3, none⟩ = some (.string (t1 k)) := by rw [HB.out.cell (p := ⟨B, k * 3, none⟩) hB]; exact (HR.out.2 k hkn).1
      have g2 : wr.cell? ⟨B, k * 3 + 1, none⟩ = some (.string (t2 k)) := by rw [HB.out.cell (p := ⟨B, k * 3 + 1, none⟩) hB]; exact (HR.out.2 k hkn).2.1
      have g3 : wr.cell? ⟨B, k * 3 + 2, none⟩ = some (.float .f64 (q k)) := by rw [HB.out.cell (p := ⟨B, k * 3 + 2, none⟩) hB]; exact (HR.out.2 k hkn).2.2
      cases e1 : ((t1 k).toList == (M.before m).toList) with
      | true =>
        cases e2 : ((t2 k).toList == (M.after m).toList) with
        | true =>
          cases e3 : ((t2 k).toList == [42]) with
          | true =>
            cases e4 : ((t1 k).toList == [42]) with
            | true =>
              have HV : Hid (spAt t1 t2 m k = 2) := by show M.spec _ _ _ _ = _; rw [spec_eq]; simp only [e1, e2, e3, e4]; rfl
              by_cases hgt : s < 2
              · have HI2 := hide (M.inv_more (spAt_bd t1 t2 m) HI.out (by rw [HV.out]; exact hgt))
                rw [HV.out] at HI2
                go_wp2_with fail
                go_roundw
                case rel => exact ⟨_, _, k + 1, rfl, rfl, by go_num, by omega, HB.out.alloc HB.out.size _, HI2⟩
                case measure => simp [intOf]; omega
              · have HI2 := hide (M.inv_same (spAt_bd t1 t2 m) HI.out (by rw [HV.out]; exact hgt))
                go_wp2_with fail
                go_roundw
                case rel => exact ⟨_, _, k + 1, rfl, rfl, by go_num, by omega, HB.out.alloc HB.out.size _, HI2⟩
                case measure => simp [intOf]; omega
            | false =>
              have HV : Hid (spAt t1 t2 m k = 2) := by show M.spec _ _ _ _ = _; rw [spec_eq]; simp only [e1, e2, e3, e4]; rfl
              by_cases hgt : s < 2
              · have HI2 := hide (M.inv_more (spAt_bd t1 t2 m) HI.out (by rw [HV.out]; exact hgt))
                rw [HV.out] at HI2
                go_wp2_with fail
                go_roundw
                case rel => exact ⟨_, _, k + 1, rfl, rfl, by go_num, by omega, HB.out.alloc HB.out.size _, HI2⟩
                case measure => simp [intOf]; omega
              · have HI2 := hide (M.inv_same (spAt_bd t1 t2 m) HI.out (by rw [HV.out]; exact hgt))
                go_wp2_with fail
                go_roundw
                case rel => exact ⟨_, _, k + 1, rfl, rfl, by go_num, by omega, HB.out.alloc HB.out.size _, HI2⟩
                case measure => simp [intOf]; omega
          | false =>
            cases e4 : ((t1 k).toList == [42]) with
            | true =>
              have HV : Hid (spAt t1 t2 m k = 2) := by show M.spec _ _ _ _ = _; rw [spec_eq]; simp only [e1, e2, e3, e4]; rfl
              by_cases hgt : s < 2
              · have HI2 := hide (M.inv_more (spAt_bd t1 t2 m) HI.out (by rw [HV.out]; exact hgt))
                rw [HV.out] at HI2
                go_wp2_with fail
                go_roundw
                case rel => exact ⟨_, _, k + 1, rfl, rfl, by go_num, by omega, HB.out.alloc HB.out.size _, HI2⟩
                case measure => simp [intOf]; omega
              · have HI2 := hide (M.inv_same (spAt_bd t1 t2 m) HI.out (by rw [HV.out]; exact hgt))
                go_wp2_with fail
                go_roundw
                case rel => exact ⟨_, _, k + 1, rfl, rfl, by go_num, by omega, HB.out.alloc HB.out.size _, HI2⟩
                case measure => simp [intOf]; omega
            | false =>
              have HV : Hid (spAt t1 t2 m k = 2) := by show M.spec _ _ _ _ = _; rw [spec_eq]; simp only [e1, e2, e3, e4]; rfl
              by_cases hgt : s < 2
              · have HI2 := hide (M.inv_more (spAt_bd t1 t2 m) HI.out (by rw [HV.out]; exact hgt))
                rw [HV.out] at HI2
                go_wp2_with fail
                go_roundw
                case rel => exact ⟨_, _, k + 1, rfl, rfl, by go_num, by omega, HB.out.alloc HB.out.size _, HI2⟩
                case measure => simp [intOf]; omega
              · have HI2 := hide (M.inv_same (spAt_bd t1 t2 m) HI.out (by rw [HV.out]; exact hgt))
                go_wp2_with fail
                go_roundw
                case rel => exact ⟨_, _, k + 1, rfl, rfl, by go_num, by omega, HB.out.alloc HB.out.size _, HI2⟩
                case measure => simp [intOf]; omega
        | false =>
          cases e3 : ((t2 k).toList == [42]) with
          | true =>
            cases e4 : ((t1 k).toList == [42]) with
            | true =>
              have HV : Hid (spAt t1 t2 m k = 1) := by show M.spec _ _ _ _ = _; rw [spec_eq]; simp only [e1, e2, e3, e4]; rfl
              by_cases hgt : s < 1
              · have HI2 := hide (M.inv_more (spAt_bd t1 t2 m) HI.out (by rw [HV.out]; exact hgt))
                rw [HV.out] at HI2
                go_wp2_with fail
                go_roundw
                case rel => exact ⟨_, _, k + 1, rfl, rfl, by go_num, by omega, HB.out.alloc HB.out.size _, HI2⟩
                case measure => simp [intOf]; omega
              · have HI2 := hide (M.inv_same (spAt_bd t1 t2 m) HI.out (by rw [HV.out]; exact hgt))
                go_wp2_with fail
                go_roundw
                case rel => exact ⟨_, _, k + 1, rfl, rfl, by go_num, by omega, HB.out.alloc HB.out.size _, HI2⟩
                case measure => simp [intOf]; omega
            | false =>
              have HV : Hid (spAt t1 t2 m k = 1) := by show M.spec _ _ _ _ = _; rw [spec_eq]; simp only [e1, e2, e3, e4]; rfl
              by_cases hgt : s < 1
              · have HI2 := hide (M.inv_more (spAt_bd t1 t2 m) HI.out (by rw [HV.out]; exact hgt))
                rw [HV.out] at HI2
                go_wp2_with fail
                go_roundw
                case rel => exact ⟨_, _, k + 1, rfl, rfl, by go_num, by omega, HB.out.alloc HB.out.size _, HI2⟩
                case measure => simp [intOf]; omega
              · have HI2 := hide (M.inv_same (spAt_bd t1 t2 m) HI.out (by rw [HV.out]; exact hgt))
                go_wp2_with fail
                go_roundw
                case rel => exact ⟨_, _, k + 1, rfl, rfl, by go_num, by omega, HB.out.alloc HB.out.size _, HI2⟩
                case measure => simp [intOf]; omega
          | false =>
            cases e4 : ((t1 k).toList == [42]) with
            | true =>
              have HV : Hid (spAt t1 t2 m k = 0) := by show M.spec _ _ _ _ = _; rw [spec_eq]; simp only [e1, e2, e3, e4]; rfl
              by_cases hgt : s < 0
              · have HI2 := hide (M.inv_more (spAt_bd t1 t2 m) HI.out (by rw [HV.out]; exact hgt))
                rw [HV.out] at HI2
                go_wp2_with fail
                go_roundw
                case rel => exact ⟨_, _, k + 1, rfl, rfl, by go_num, by omega, HB.out.alloc HB.out.size _, HI2⟩
                case measure => simp [intOf]; omega
              · have HI2 := hide (M.inv_same (spAt_bd t1 t2 m) HI.out (by rw [HV.out]; exact hgt))
                go_wp2_with fail
                go_roundw
                case rel => exact ⟨_, _, k + 1, rfl, rfl, by go_num, by omega, HB.out.alloc HB.out.size _, HI2⟩
                case measure => simp [intOf]; omega
            | false =>
              have HV : Hid (spAt t1 t2 m k = -1) := by show M.spec _ _ _ _ = _; rw [spec_eq]; simp only [e1, e2, e3, e4]; rfl
              have HI2 := hide (M.inv_same (spAt_bd t1 t2 m) HI.out (by rw [HV.out]; have := (M.inv_bd (spAt_bd t1 t2 m) HI.out).1; omega))
              go_wp2_with fail
              go_roundw
              case rel => exact ⟨_, _, k + 1, rfl, rfl, by go_num, by omega, HB.out.alloc HB.out.size _, HI2⟩
              case measure => simp [intOf]; omega
      | false =>
        cases e2 : ((t2 k).toList == (M.after m).toList) with
        | true =>
          cases e3 : ((t2 k).toList == [42]) with
          | true =>
            cases e4 : ((t1 k).toList == [42]) with
            | true =>
              have HV : Hid (spAt t1 t2 m k = 0) := by show M.spec _ _ _ _ = _; rw [spec_eq]; simp only [e1, e2, e3, e4]; rfl
              by_cases hgt : s < 0
              · have HI2 := hide (M.inv_more (spAt_bd t1 t2 m) HI.out (by rw [HV.out]; exact hgt))
                rw [HV.out] at HI2
                go_wp2_with fail
                go_roundw
                case rel => exact ⟨_, _, k + 1, rfl, rfl, by go_num, by omega, HB.out.alloc HB.out.size _, HI2⟩
                case measure => simp [intOf]; omega
              · have HI2 := hide (M.inv_same (spAt_bd t1 t2 m) HI.out (by rw [HV.out]; exact hgt))
                go_wp2_with fail
                go_roundw
                case rel => exact ⟨_, _, k + 1, rfl, rfl, by go_num, by omega, HB.out.alloc HB.out.size _, HI2⟩
                case measure => simp [intOf]; omega
            | false =>
              have HV : Hid (spAt t1 t2 m k = -1) := by show M.spec _ _ _ _ = _; rw [spec_eq]; simp only [e1, e2, e3, e4]; rfl
              have HI2 := hide (M.inv_same (spAt_bd t1 t2 m) HI.out (by rw [HV.out]; have := (M.inv_bd (spAt_bd t1 t2 m) HI.out).1; omega))
              go_wp2_with fail
              go_roundw
              case rel => exact ⟨_, _, k + 1, rfl, rfl, by go_num, by omega, HB.out.alloc HB.out.size _, HI2⟩
              case measure => simp [intOf]; omega
          | false =>
            cases e4 : ((t1 k).toList == [42]) with
            | true =>
              have HV : Hid (spAt t1 t2 m k = 0) := by show M.spec _ _ _ _ = _; rw [spec_eq]; simp only [e1, e2, e3, e4]; rfl
              by_cases hgt : s < 0
              · have HI2 := hide (M.inv_more (spAt_bd t1 t2 m) HI.out (by rw [HV.out]; exact hgt))
                rw [HV.out] at HI2
                go_wp2_with fail
                go_roundw
                case rel => exact ⟨_, _, k + 1, rfl, rfl, by go_num, by omega, HB.out.alloc HB.out.size _, HI2⟩
                case measure => simp [intOf]; omega
              · have HI2 := hide (M.inv_same (spAt_bd t1 t2 m) HI.out (by rw [HV.out]; exact hgt))
                go_wp2_with fail
                go_roundw
                case rel => exact ⟨_, _, k + 1, rfl, rfl, by go_num, by omega, HB.out.alloc HB.out.size _, HI2⟩
                case measure => simp [intOf]; omega
            | false =>
              have HV : Hid (spAt t1 t2 m k = -1) := by show M.spec _ _ _ _ = _; rw [spec_eq]; simp only [e1, e2, e3, e4]; rfl
              have HI2 := hide (M.inv_same (spAt_bd t1 t2 m) HI.out (by rw [HV.out]; have := (M.inv_bd (spAt_bd t1 t2 m) HI.out).1; omega))
              go_wp2_with fail
              go_roundw
              case rel => exact ⟨_, _, k + 1, rfl, rfl, by go_num, by omega, HB.out.alloc HB.out.size _, HI2⟩
              case measure => simp [intOf]; omega
        | false =>
          cases e3 : ((t2 k).toList == [42]) with
          | true =>
            cases e4 : ((t1 k).toList == [42]) with
            | true =>
              have HV : Hid (spAt t1 t2 m k = 0) := by show M.spec _ _ _ _ = _; rw [spec_eq]; simp only [e1, e2, e3, e4]; rfl
              by_cases hgt : s < 0
              · have HI2 := hide (M.inv_more (spAt_bd t1 t2 m) HI.out (by rw [HV.out]; exact hgt))
                rw [HV.out] at HI2
                go_wp2_with fail
                go_roundw
                case rel => exact ⟨_, _, k + 1, rfl, rfl, by go_num, by omega, HB.out.alloc HB.out.size _, HI2⟩
                case measure => simp [intOf]; omega
              · have HI2 := hide (M.inv_same (spAt_bd t1 t2 m) HI.out (by rw [HV.out]; exact hgt))
                go_wp2_with fail
                go_roundw
                case rel => exact ⟨_, _, k + 1, rfl, rfl, by go_num, by omega, HB.out.alloc HB.out.size _, HI2⟩
                case measure => simp [intOf]; omega
            | false =>
              have HV : Hid (spAt t1 t2 m k = -1) := by show M.spec _ _ _ _ = _; rw [spec_eq]; simp only [e1, e2, e3, e4]; rfl
              have HI2 := hide (M.inv_same (spAt_bd t1 t2 m) HI.out (by rw [HV.out]; have := (M.inv_bd (spAt_bd t1 t2 m) HI.out).1; omega))
              go_wp2_with fail
              go_roundw
              case rel => exact ⟨_, _, k + 1, rfl, rfl, by go_num, by omega, HB.out.alloc HB.out.size _, HI2⟩
              case measure => simp [intOf]; omega
          | false =>
            cases e4 : ((t1 k).toList == [42]) with
            | true =>
              have HV : Hid (spAt t1 t2 m k = 0) := by show M.spec _ _ _ _ = _; rw [spec_eq]; simp only [e1, e2, e3, e4]; rfl
              by_cases hgt : s < 0
              · have HI2 := hide (M.inv_more (spAt_bd t1 t2 m) HI.out (by rw [HV.out]; exact hgt))
                rw [HV.out] at HI2
                go_wp2_with fail
                go_roundw
                case rel => exact ⟨_, _, k + 1, rfl, rfl, by go_num, by omega, HB.out.alloc HB.out.size _, HI2⟩
                case measure => simp [intOf]; omega
              · have HI2 := hide (M.inv_same (spAt_bd t1 t2 m) HI.out (by rw [HV.out]; exact hgt))
                go_wp2_with fail
                go_roundw
                case rel => exact ⟨_, _, k + 1, rfl, rfl, by go_num, by omega, HB.out.alloc HB.out.size _, HI2⟩
                case measure => simp [intOf]; omega
            | false =>
              have HV : Hid (spAt t1 t2 m k = -1) := by show M.spec _ _ _ _ = _; rw [spec_eq]; simp only [e1, e2, e3, e4]; rfl
              have HI2 := hide (M.inv_same (spAt_bd t1 t2 m) HI.out (by rw [HV.out]; have := (M.inv_bd (spAt_bd t1 t2 m) HI.out).1; omega))
              go_wp2_with fail
              go_roundw
              case rel => exact ⟨_, _, k + 1, rfl, rfl, by go_num, by omega, HB.out.alloc HB.out.size _, HI2⟩
              case measure => simp [intOf]; omega
    · go_wp2_with fail
      go_ret
      exact ⟨⟨s, y, rfl, by rw [show n = k from by omega]; exact HI.out⟩, HB.out⟩
end Go.Proofs.Qxb6602103a
