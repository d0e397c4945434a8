/-
  THE WALK of zzb1SkipModel, the automaton, of seat b6601642a.
-/
import Derived.Test.Qxb6601642aWalks
import Derived.WalkKit
namespace Go.Proofs.Qxb6601642a
open Go.RowKit

theorem zzIsSpace_any (c : UInt8) (w : World) :
    Calls Try.prog 18 #[.int .u8 (c.toNat : Int)] w fun e w' => e = .returned (.bool (Skip.isSp c)) ∧ w' = w := by
  have H := hide (isSp_int c)
  go_enter Try.func18, Try.ntmps18
  go_wp2
  all_goals
    go_ret
    exact ⟨by rw [H.out]; simp [*], rfl⟩

/-- What is left to skip in the automaton's state st, the bytes l before it. -/
def left (st : Nat) (l : List UInt8) : Option Nat := if st = 0 then Skip.skip l else if st = 1 then Skip.fin1 l else if st = 2 then Skip.fin2 l else Skip.fin3 l
def leftAt (s : ByteArray) (st k : Nat) : Int := Skip.ans k (left st (s.data.toList.drop k))

theorem leftAt_zero (s : ByteArray) (k : Nat) : leftAt s 0 k = Skip.skipAt s.data.toList k := rfl
theorem left_nil (st : Nat) : left st [] = some 0 := by
  unfold left
  split
  · rfl
  · split
    · rfl
    · split <;> rfl
theorem leftAt_end (s : ByteArray) (st k : Nat) (h : s.size ≤ k) : leftAt s st k = k := by
  unfold leftAt
  rw [List.drop_eq_nil_of_le (by rw [← Lib.size_eq]; exact h), left_nil]
  simp [Skip.ans]

theorem leftAt_step (s : ByteArray) (st st' k j : Nat) (h : left st (s.data.toList.drop k) = (left st' (s.data.toList.drop (k + j))).map (· + j)) : leftAt s st' (k + j) = leftAt s st k := by
  unfold leftAt
  rw [h, Skip.ans_map]
  simp

section
variable (s : ByteArray) (k : Nat) (h : k < s.size)
theorem a_line_nl (hc : ((s[k].toNat : Int) == 10) = true) : leftAt s 0 (k + 1) = leftAt s 1 k := by
  refine leftAt_step s 1 0 k 1 ?_
  have hc' : (s[k] == 10) = true := by rw [beq_byte]; exact hc
  simp only [left]
  rw [drop_cons s k h, Skip.fin1_cons, hc']
  rfl
theorem a_line (hc : ((s[k].toNat : Int) == 10) = false) : leftAt s 1 (k + 1) = leftAt s 1 k := by
  refine leftAt_step s 1 1 k 1 ?_
  have hc' : (s[k] == 10) = false := by rw [beq_byte]; exact hc
  simp only [left]
  rw [drop_cons s k h, Skip.fin1_cons, hc']
  rfl
theorem a_block_star (hc : ((s[k].toNat : Int) == 42) = true) : leftAt s 3 (k + 1) = leftAt s 2 k := by
  refine leftAt_step s 2 3 k 1 ?_
  have hc' : (s[k] == 42) = true := by rw [beq_byte]; exact hc
  simp only [left]
  rw [drop_cons s k h, Skip.fin2_cons, hc']
  rfl
theorem a_block (hc : ((s[k].toNat : Int) == 42) = false) : leftAt s 2 (k + 1) = leftAt s 2 k := by
  refine leftAt_step s 2 2 k 1 ?_
  have hc' : (s[k] == 42) = false := by rw [beq_byte]; exact hc
  simp only [left]
  rw [drop_cons s k h, Skip.fin2_cons, hc']
  rfl
theorem a_star_end (hc : ((s[k].toNat : Int) == 47) = true) : leftAt s 0 (k + 1) = leftAt s 3 k := by
  refine leftAt_step s 3 0 k 1 ?_
  have hc' : (s[k] == 47) = true := by rw [beq_byte]; exact hc
  simp only [left]
  rw [drop_cons s k h, Skip.fin3_cons, hc']
  rfl
theorem a_star_star (hc : ((s[k].toNat : Int) == 42) = true) : leftAt s 3 (k + 1) = leftAt s 3 k := by
  refine leftAt_step s 3 3 k 1 ?_
  have hc' : (s[k] == 42) = true := by rw [beq_byte]; exact hc
  have hc2 : s[k] = 42 := by simpa using hc'
  have hc3 : (s[k] == 47) = false := by rw [hc2]; decide
  simp only [left]
  rw [drop_cons s k h, Skip.fin3_cons, hc', hc3]
  rfl
theorem a_star (hc : ((s[k].toNat : Int) == 47) = false) (hd : ((s[k].toNat : Int) == 42) = false) : leftAt s 2 (k + 1) = leftAt s 3 k := by
  refine leftAt_step s 3 2 k 1 ?_
  have hc' : (s[k] == 47) = false := by rw [beq_byte]; exact hc
  have hd' : (s[k] == 42) = false := by rw [beq_byte]; exact hd
  simp only [left]
  rw [drop_cons s k h, Skip.fin3_cons, hc', hd']
  rfl
theorem a_sp (hsp : Skip.isSp s[k] = true) : leftAt s 0 (k + 1) = leftAt s 0 k := by
  refine leftAt_step s 0 0 k 1 ?_
  simp only [left]
  rw [drop_cons s k h, Skip.skip_sp _ _ hsp]
  rfl
theorem a_hash (hc : ((s[k].toNat : Int) == 35) = true) : leftAt s 1 (k + 1) = leftAt s 0 k := by
  refine leftAt_step s 0 1 k 1 ?_
  have hc' : (s[k] == 35) = true := by rw [beq_byte]; exact hc
  have hc2 : s[k] = 35 := by simpa using hc'
  simp only [left]
  rw [drop_cons s k h, hc2, Skip.skip_hash]
  rfl
theorem drop_two (l : List UInt8) : (l.drop (k + 1)).drop 1 = l.drop (k + 2) := by rw [List.drop_drop]
theorem a_dash (hsp : Skip.isSp s[k] = false) (hc : ((s[k].toNat : Int) == 35) = false) (hl : isLine s k h) : leftAt s 1 (k + 2) = leftAt s 0 k := by
  refine leftAt_step s 0 1 k 2 ?_
  have hc' : (s[k] == 35) = false := by rw [beq_byte]; exact hc
  have hd : Skip.dashes (s.data.toList.drop k) = true := by
    have hs := step_line s k h hsp hl
    cases hh : Skip.dashes (s.data.toList.drop k) with
    | true => rfl
    | false =>
      have : (s[k] == 35 || Skip.dashes (s.data.toList.drop k)) = true := by
        rcases hl with a | ⟨a, b⟩
        · have : (s[k] == 35) = true := by rw [beq_byte]; exact a
          rw [this]; rfl
        · cases hx : (s[k] == 35 || Skip.dashes (s.data.toList.drop k)) with
          | true => rfl
          | false =>
            exfalso
            have hb := (Skip.toLine_bd (s.data.toList.drop k) (by rw [drop_cons s k h]; simp)).1
            have hp' : Lib.hasPrefix (s.data.toList.drop k) [45, 45] = true := a
            have h3 : (s.data.toList.drop k).length = s.size - k := by rw [List.length_drop, ← Lib.size_eq]
            unfold Skip.dashes at hh
            rw [hp'] at hh
            rcases b with b | ⟨h2, b⟩
            · simp [h3] at hh
              omega
            · have e : (s.data.toList.drop k)[2]? = some s[k + 2] := by
                rw [List.getElem?_drop, Lib.data_getElem? s (k + 2) h2]
              simp [Skip.spAt, e, b] at hh
      rw [hc', hh] at this
      cases this
  simp only [left]
  rw [drop_cons s k h] at hd ⊢
  rw [Skip.skip_dashes _ _ hsp hd, drop_two]
  rfl
theorem a_exec (hsp : Skip.isSp s[k] = false) (hl : ¬ isLine s k h) (hp : pfx s k ⟨#[47, 42, 33]⟩ = true) : leftAt s 0 k = -1 := at_exec s k h hsp hl hp
theorem a_open (hsp : Skip.isSp s[k] = false) (hl : ¬ isLine s k h) (hp : pfx s k ⟨#[47, 42, 33]⟩ = false) (hq : pfx s k ⟨#[47, 42]⟩ = true) : leftAt s 2 (k + 2) = leftAt s 0 k := by
  refine leftAt_step s 0 2 k 2 ?_
  have hn := no_line s k h hl
  have hp' : Lib.hasPrefix (s.data.toList.drop k) [47, 42, 33] = false := hp
  have hq' : Lib.hasPrefix (s.data.toList.drop k) [47, 42] = true := hq
  simp only [left]
  rw [drop_cons s k h] at hn hp' hq' ⊢
  rw [Skip.skip_block _ _ hsp hn hp' hq', drop_two]
  rfl
theorem a_code (hsp : Skip.isSp s[k] = false) (hl : ¬ isLine s k h) (hp : pfx s k ⟨#[47, 42, 33]⟩ = false) (hq : pfx s k ⟨#[47, 42]⟩ = false) : leftAt s 0 k = k := at_code s k h hsp hl hp hq

/-! prefixes, byte by byte -/
theorem pfx2 (a b : UInt8) : pfx s k ⟨#[a, b]⟩ = true ↔ s[k].toNat = a.toNat ∧ ∃ h1 : k + 1 < s.size, s[k + 1].toNat = b.toNat := by
  unfold pfx Lib.hasPrefix
  rw [drop_cons s k h]
  by_cases h1 : k + 1 < s.size
  · rw [drop_cons s (k + 1) h1]
    simp [List.isPrefixOf, h1]
    constructor
    · rintro ⟨x, y⟩; rw [x, y]; exact ⟨rfl, rfl⟩
    · rintro ⟨x, y⟩; exact ⟨(UInt8.toNat_inj.1 x).symm, (UInt8.toNat_inj.1 y).symm⟩
  · rw [List.drop_eq_nil_of_le (by rw [← Lib.size_eq]; omega)]
    simp [List.isPrefixOf, h1]
theorem pfx3 (h : k < s.size) (a b c : UInt8) : pfx s k ⟨#[a, b, c]⟩ = true ↔ pfx s k ⟨#[a, b]⟩ = true ∧ ∃ h1 : k + 2 < s.size, s[k + 2].toNat = c.toNat := by
  unfold pfx Lib.hasPrefix
  rw [drop_cons s k h]
  by_cases h1 : k + 1 < s.size
  · rw [drop_cons s (k + 1) h1]
    by_cases h2 : k + 2 < s.size
    · rw [drop_cons s (k + 1 + 1) h2]
      simp [List.isPrefixOf, h2, and_assoc]
      intro _ _
      constructor
      · intro x; rw [x]
      · intro x; exact (UInt8.toNat_inj.1 x).symm
    · rw [List.drop_eq_nil_of_le (by rw [← Lib.size_eq]; omega)]
      simp [List.isPrefixOf, h2]
  · rw [List.drop_eq_nil_of_le (by rw [← Lib.size_eq]; omega)]
    simp [List.isPrefixOf]
end

theorem four (a : Nat) (h : a ≤ 3) : a = 0 ∨ a = 1 ∨ a = 2 ∨ a = 3 := by omega

set_option maxRecDepth 100000 in
set_option maxHeartbeats 2000000 in
theorem model_any (s : ByteArray) (i : Nat) (w : World) (hs : s.size ≤ 1048576) (_hi : (i : Int) ≤ 9223372036854775807) :
    Calls Try.prog 10 #[.string s, .int .i64 (i : Int)] w fun e w' => e = .returned (.int .i64 (Skip.skipAt s.data.toList i)) ∧ w' = w := by
  by_cases hin : i < s.size
  · rw [← leftAt_zero]
    have hd : decide (s.size ≤ i) = false := by simp; omega
    go_enter Try.func10, Try.ntmps10
    go_wp2
    go_loop [6, 7] (fun st p => ∃ a k : Nat, st = .int .i64 (a : Int) ∧ a ≤ 3 ∧ p = .int .i64 (k : Int) ∧ k ≤ s.size ∧ leftAt s a k = leftAt s 0 i) (fun _ p => s.size - (intOf p).toNat)
    case atStart => exact ⟨0, i, rfl, by omega, rfl, by omega, rfl⟩
    case round =>
      obtain ⟨a, k, rfl, ha, rfl, hk, hr⟩ := hrel
      have HR := hide hr
      clear hr
      by_cases hlt : k < s.size
      · rcases four a ha with rfl | rfl | rfl | rfl
        · clear ha
          cases hsp : Skip.isSp s[k] with
          | true =>
            have HF := hide (a_sp s k hlt hsp)
            go_wp2_with (go_at_call 18; refine (zzIsSpace_any _ _).mono ?_; rintro e w' ⟨rfl, rfl⟩)
            all_goals (go_round; (case rel => exact ⟨0, k + 1, rfl, by omega, by go_num, by omega, by rw [HF.out, HR.out]⟩); (case measure => simp [intOf]; omega))
          | false =>
            cases h35 : ((s[k].toNat : Int) == 35) with
            | true =>
              have HF := hide (a_hash s k hlt h35)
              go_wp2_with (go_at_call 18; refine (zzIsSpace_any _ _).mono ?_; rintro e w' ⟨rfl, rfl⟩)
              all_goals (go_round; (case rel => exact ⟨1, k + 1, rfl, by omega, by go_num, by omega, by rw [HF.out, HR.out]⟩); (case measure => simp [intOf]; omega))
            | false =>
              cases h45 : ((s[k].toNat : Int) == 45) with
              | true =>
                by_cases hm1 : k + 1 < s.size
                · have hm1' : (k : Int) + 1 < s.size := by omega
                  cases h45b : ((s[k + 1].toNat : Int) == 45) with
                  | true =>
                    have hp45 : pfx s k ⟨#[45, 45]⟩ = true := (pfx2 s k hlt 45 45).2 ⟨by simp at h45; simp; omega, hm1, by simp at h45b; simp; omega⟩
                    by_cases h2e : k + 2 = s.size
                    · have hbe : ((k : Int) + 2 == (s.size : Int)) = true := by rw [beq_iff_eq]; omega
                      have HF := hide (a_dash s k hlt hsp h35 (Or.inr ⟨hp45, Or.inl h2e⟩))
                      have H2e := hide h2e
                      clear h2e hp45
                      go_wp2_with (go_at_call 18; refine (zzIsSpace_any _ _).mono ?_; rintro e w' ⟨rfl, rfl⟩)
                      all_goals (go_round; (case rel => exact ⟨1, k + 2, rfl, by omega, by go_num, by omega, by rw [HF.out, HR.out]⟩); (case measure => simp [intOf]; omega))
                    · have hbe : ((k : Int) + 2 == (s.size : Int)) = false := by rw [beq_eq_false_iff_ne]; omega
                      have h2l : k + 2 < s.size := by omega
                      cases hsp2 : Skip.isSp s[k + 2] with
                      | true =>
                        have HF := hide (a_dash s k hlt hsp h35 (Or.inr ⟨hp45, Or.inr ⟨h2l, hsp2⟩⟩))
                        clear hp45
                        go_wp2_with (go_at_call 18; refine (zzIsSpace_any _ _).mono ?_; rintro e w' ⟨rfl, rfl⟩)
                        all_goals (go_round; (case rel => exact ⟨1, k + 2, rfl, by omega, by go_num, by omega, by rw [HF.out, HR.out]⟩); (case measure => simp [intOf]; omega))
                      | false =>
                        have hl : ¬ isLine s k hlt := by
                          rintro (a | ⟨_, a | ⟨_, a⟩⟩)
                          · rw [h35] at a; cases a
                          · exact h2e a
                          · rw [hsp2] at a; cases a
                        have h47 : ((s[k].toNat : Int) == 47) = false := by simp at h45; rw [h45]; rfl
                        have hq : pfx s k ⟨#[47, 42]⟩ = false := by
                          cases hx : pfx s k ⟨#[47, 42]⟩ with
                          | false => rfl
                          | true => have := ((pfx2 s k hlt 47 42).1 hx).1; simp at h47 this; try omega
                        have hp : pfx s k ⟨#[47, 42, 33]⟩ = false := by
                          cases hx : pfx s k ⟨#[47, 42, 33]⟩ with
                          | false => rfl
                          | true => have := ((pfx3 s k hlt 47 42 33).1 hx).1; rw [hq] at this; cases this
                        have HF := hide (a_code s k hlt hsp hl hp hq)
                        clear hl hq hp hp45
                        go_wp2_with (go_at_call 18; refine (zzIsSpace_any _ _).mono ?_; rintro e w' ⟨rfl, rfl⟩)
                        all_goals (go_ret; exact ⟨ret_int (by rw [← HR.out, HF.out]), rfl⟩)
                  | false =>
                    have hl : ¬ isLine s k hlt := by
                      rintro (a | ⟨a, b⟩)
                      · rw [h35] at a; cases a
                      · obtain ⟨c1, c2, c3⟩ := (pfx2 s k hlt 45 45).1 a
                        simp at c1 c3
                        simp at h45b; omega

                    cases h47 : ((s[k].toNat : Int) == 47) with
                    | true =>
                      by_cases hn1 : k + 1 < s.size
                      · have hn1' : (k : Int) + 1 < s.size := by omega
                        cases h42 : ((s[k + 1].toNat : Int) == 42) with
                        | true =>
                          have hq : pfx s k ⟨#[47, 42]⟩ = true := (pfx2 s k hlt 47 42).2 ⟨by simp at h47; simp; omega, hn1, by simp at h42; simp; omega⟩
                          by_cases hn2 : k + 2 < s.size
                          · have hn2' : (k : Int) + 2 < s.size := by omega
                            cases h33 : ((s[k + 2].toNat : Int) == 33) with
                            | true =>
                              have hp : pfx s k ⟨#[47, 42, 33]⟩ = true := (pfx3 s k hlt 47 42 33).2 ⟨hq, hn2, by simp at h33; simp; omega⟩
                              have HF := hide (a_exec s k hlt hsp hl hp)
                              clear hl hq hp
                              go_wp2_with (go_at_call 18; refine (zzIsSpace_any _ _).mono ?_; rintro e w' ⟨rfl, rfl⟩)
                              all_goals (go_ret; exact ⟨ret_int (by rw [← HR.out, HF.out]), rfl⟩)
                            | false =>
                              have hp : pfx s k ⟨#[47, 42, 33]⟩ = false := by
                                cases hx : pfx s k ⟨#[47, 42, 33]⟩ with
                                | false => rfl
                                | true => obtain ⟨_, h1, h2⟩ := (pfx3 s k hlt 47 42 33).1 hx; simp at h33 h2; try omega
                              have HF := hide (a_open s k hlt hsp hl hp hq)
                              clear hl hq hp
                              go_wp2_with (go_at_call 18; refine (zzIsSpace_any _ _).mono ?_; rintro e w' ⟨rfl, rfl⟩)
                              all_goals (go_round; (case rel => exact ⟨2, k + 2, rfl, by omega, by go_num, by omega, by rw [HF.out, HR.out]⟩); (case measure => simp [intOf]; omega))
                          · have hn2' : ¬ (k : Int) + 2 < s.size := by omega
                            have hp : pfx s k ⟨#[47, 42, 33]⟩ = false := by
                              cases hx : pfx s k ⟨#[47, 42, 33]⟩ with
                              | false => rfl
                              | true => obtain ⟨_, h1, h2⟩ := (pfx3 s k hlt 47 42 33).1 hx; omega
                            have HF := hide (a_open s k hlt hsp hl hp hq)
                            clear hl hq hp
                            go_wp2_with (go_at_call 18; refine (zzIsSpace_any _ _).mono ?_; rintro e w' ⟨rfl, rfl⟩)
                            all_goals (go_round; (case rel => exact ⟨2, k + 2, rfl, by omega, by go_num, by omega, by rw [HF.out, HR.out]⟩); (case measure => simp [intOf]; omega))
                        | false =>
                          have hq : pfx s k ⟨#[47, 42]⟩ = false := by
                            cases hx : pfx s k ⟨#[47, 42]⟩ with
                            | false => rfl
                            | true => obtain ⟨_, h1, h2⟩ := (pfx2 s k hlt 47 42).1 hx; first | omega | (simp at h42 h2; try omega)
                          have hp : pfx s k ⟨#[47, 42, 33]⟩ = false := by
                            cases hx : pfx s k ⟨#[47, 42, 33]⟩ with
                            | false => rfl
                            | true => have := ((pfx3 s k hlt 47 42 33).1 hx).1; rw [hq] at this; cases this
                          have HF := hide (a_code s k hlt hsp hl hp hq)
                          clear hl hq hp
                          go_wp2_with (go_at_call 18; refine (zzIsSpace_any _ _).mono ?_; rintro e w' ⟨rfl, rfl⟩)
                          all_goals (go_ret; exact ⟨ret_int (by rw [← HR.out, HF.out]), rfl⟩)
                      · have hn1' : ¬ (k : Int) + 1 < s.size := by omega
                        have hq : pfx s k ⟨#[47, 42]⟩ = false := by
                          cases hx : pfx s k ⟨#[47, 42]⟩ with
                          | false => rfl
                          | true => obtain ⟨_, h1, h2⟩ := (pfx2 s k hlt 47 42).1 hx; first | omega | (simp at h42 h2; try omega)
                        have hp : pfx s k ⟨#[47, 42, 33]⟩ = false := by
                          cases hx : pfx s k ⟨#[47, 42, 33]⟩ with
                          | false => rfl
                          | true => have := ((pfx3 s k hlt 47 42 33).1 hx).1; rw [hq] at this; cases this
                        have HF := hide (a_code s k hlt hsp hl hp hq)
                        clear hl hq hp
                        go_wp2_with (go_at_call 18; refine (zzIsSpace_any _ _).mono ?_; rintro e w' ⟨rfl, rfl⟩)
                        all_goals (go_ret; exact ⟨ret_int (by rw [← HR.out, HF.out]), rfl⟩)
                    | false =>
                      have hq : pfx s k ⟨#[47, 42]⟩ = false := by
                        cases hx : pfx s k ⟨#[47, 42]⟩ with
                        | false => rfl
                        | true => have := ((pfx2 s k hlt 47 42).1 hx).1; simp at h47 this; try omega
                      have hp : pfx s k ⟨#[47, 42, 33]⟩ = false := by
                        cases hx : pfx s k ⟨#[47, 42, 33]⟩ with
                        | false => rfl
                        | true => have := ((pfx3 s k hlt 47 42 33).1 hx).1; rw [hq] at this; cases this
                      have HF := hide (a_code s k hlt hsp hl hp hq)
                      clear hl hq hp
                      go_wp2_with (go_at_call 18; refine (zzIsSpace_any _ _).mono ?_; rintro e w' ⟨rfl, rfl⟩)
                      all_goals (go_ret; exact ⟨ret_int (by rw [← HR.out, HF.out]), rfl⟩)
                · have hm1' : ¬ (k : Int) + 1 < s.size := by omega
                  have hl : ¬ isLine s k hlt := by
                    rintro (a | ⟨a, b⟩)
                    · rw [h35] at a; cases a
                    · obtain ⟨c1, c2, c3⟩ := (pfx2 s k hlt 45 45).1 a
                      simp at c1 c3
                      omega

                  cases h47 : ((s[k].toNat : Int) == 47) with
                  | true =>
                    by_cases hn1 : k + 1 < s.size
                    · have hn1' : (k : Int) + 1 < s.size := by omega
                      cases h42 : ((s[k + 1].toNat : Int) == 42) with
                      | true =>
                        have hq : pfx s k ⟨#[47, 42]⟩ = true := (pfx2 s k hlt 47 42).2 ⟨by simp at h47; simp; omega, hn1, by simp at h42; simp; omega⟩
                        by_cases hn2 : k + 2 < s.size
                        · have hn2' : (k : Int) + 2 < s.size := by omega
                          cases h33 : ((s[k + 2].toNat : Int) == 33) with
                          | true =>
                            have hp : pfx s k ⟨#[47, 42, 33]⟩ = true := (pfx3 s k hlt 47 42 33).2 ⟨hq, hn2, by simp at h33; simp; omega⟩
                            have HF := hide (a_exec s k hlt hsp hl hp)
                            clear hl hq hp
                            go_wp2_with (go_at_call 18; refine (zzIsSpace_any _ _).mono ?_; rintro e w' ⟨rfl, rfl⟩)
                            all_goals (go_ret; exact ⟨ret_int (by rw [← HR.out, HF.out]), rfl⟩)
                          | false =>
                            have hp : pfx s k ⟨#[47, 42, 33]⟩ = false := by
                              cases hx : pfx s k ⟨#[47, 42, 33]⟩ with
                              | false => rfl
                              | true => obtain ⟨_, h1, h2⟩ := (pfx3 s k hlt 47 42 33).1 hx; simp at h33 h2; try omega
                            have HF := hide (a_open s k hlt hsp hl hp hq)
                            clear hl hq hp
                            go_wp2_with (go_at_call 18; refine (zzIsSpace_any _ _).mono ?_; rintro e w' ⟨rfl, rfl⟩)
                            all_goals (go_round; (case rel => exact ⟨2, k + 2, rfl, by omega, by go_num, by omega, by rw [HF.out, HR.out]⟩); (case measure => simp [intOf]; omega))
                        · have hn2' : ¬ (k : Int) + 2 < s.size := by omega
                          have hp : pfx s k ⟨#[47, 42, 33]⟩ = false := by
                            cases hx : pfx s k ⟨#[47, 42, 33]⟩ with
                            | false => rfl
                            | true => obtain ⟨_, h1, h2⟩ := (pfx3 s k hlt 47 42 33).1 hx; omega
                          have HF := hide (a_open s k hlt hsp hl hp hq)
                          clear hl hq hp
                          go_wp2_with (go_at_call 18; refine (zzIsSpace_any _ _).mono ?_; rintro e w' ⟨rfl, rfl⟩)
                          all_goals (go_round; (case rel => exact ⟨2, k + 2, rfl, by omega, by go_num, by omega, by rw [HF.out, HR.out]⟩); (case measure => simp [intOf]; omega))
                      | false =>
                        have hq : pfx s k ⟨#[47, 42]⟩ = false := by
                          cases hx : pfx s k ⟨#[47, 42]⟩ with
                          | false => rfl
                          | true => obtain ⟨_, h1, h2⟩ := (pfx2 s k hlt 47 42).1 hx; first | omega | (simp at h42 h2; try omega)
                        have hp : pfx s k ⟨#[47, 42, 33]⟩ = false := by
                          cases hx : pfx s k ⟨#[47, 42, 33]⟩ with
                          | false => rfl
                          | true => have := ((pfx3 s k hlt 47 42 33).1 hx).1; rw [hq] at this; cases this
                        have HF := hide (a_code s k hlt hsp hl hp hq)
                        clear hl hq hp
                        go_wp2_with (go_at_call 18; refine (zzIsSpace_any _ _).mono ?_; rintro e w' ⟨rfl, rfl⟩)
                        all_goals (go_ret; exact ⟨ret_int (by rw [← HR.out, HF.out]), rfl⟩)
                    · have hn1' : ¬ (k : Int) + 1 < s.size := by omega
                      have hq : pfx s k ⟨#[47, 42]⟩ = false := by
                        cases hx : pfx s k ⟨#[47, 42]⟩ with
                        | false => rfl
                        | true => obtain ⟨_, h1, h2⟩ := (pfx2 s k hlt 47 42).1 hx; first | omega | (simp at h42 h2; try omega)
                      have hp : pfx s k ⟨#[47, 42, 33]⟩ = false := by
                        cases hx : pfx s k ⟨#[47, 42, 33]⟩ with
                        | false => rfl
                        | true => have := ((pfx3 s k hlt 47 42 33).1 hx).1; rw [hq] at this; cases this
                      have HF := hide (a_code s k hlt hsp hl hp hq)
                      clear hl hq hp
                      go_wp2_with (go_at_call 18; refine (zzIsSpace_any _ _).mono ?_; rintro e w' ⟨rfl, rfl⟩)
                      all_goals (go_ret; exact ⟨ret_int (by rw [← HR.out, HF.out]), rfl⟩)
                  | false =>
                    have hq : pfx s k ⟨#[47, 42]⟩ = false := by
                      cases hx : pfx s k ⟨#[47, 42]⟩ with
                      | false => rfl
                      | true => have := ((pfx2 s k hlt 47 42).1 hx).1; simp at h47 this; try omega
                    have hp : pfx s k ⟨#[47, 42, 33]⟩ = false := by
                      cases hx : pfx s k ⟨#[47, 42, 33]⟩ with
                      | false => rfl
                      | true => have := ((pfx3 s k hlt 47 42 33).1 hx).1; rw [hq] at this; cases this
                    have HF := hide (a_code s k hlt hsp hl hp hq)
                    clear hl hq hp
                    go_wp2_with (go_at_call 18; refine (zzIsSpace_any _ _).mono ?_; rintro e w' ⟨rfl, rfl⟩)
                    all_goals (go_ret; exact ⟨ret_int (by rw [← HR.out, HF.out]), rfl⟩)
              | false =>
                have hl : ¬ isLine s k hlt := by
                  rintro (a | ⟨a, b⟩)
                  · rw [h35] at a; cases a
                  · obtain ⟨c1, c2, c3⟩ := (pfx2 s k hlt 45 45).1 a
                    simp at c1 c3
                    simp at h45; omega

                cases h47 : ((s[k].toNat : Int) == 47) with
                | true =>
                  by_cases hn1 : k + 1 < s.size
                  · have hn1' : (k : Int) + 1 < s.size := by omega
                    cases h42 : ((s[k + 1].toNat : Int) == 42) with
                    | true =>
                      have hq : pfx s k ⟨#[47, 42]⟩ = true := (pfx2 s k hlt 47 42).2 ⟨by simp at h47; simp; omega, hn1, by simp at h42; simp; omega⟩
                      by_cases hn2 : k + 2 < s.size
                      · have hn2' : (k : Int) + 2 < s.size := by omega
                        cases h33 : ((s[k + 2].toNat : Int) == 33) with
                        | true =>
                          have hp : pfx s k ⟨#[47, 42, 33]⟩ = true := (pfx3 s k hlt 47 42 33).2 ⟨hq, hn2, by simp at h33; simp; omega⟩
                          have HF := hide (a_exec s k hlt hsp hl hp)
                          clear hl hq hp
                          go_wp2_with (go_at_call 18; refine (zzIsSpace_any _ _).mono ?_; rintro e w' ⟨rfl, rfl⟩)
                          all_goals (go_ret; exact ⟨ret_int (by rw [← HR.out, HF.out]), rfl⟩)
                        | false =>
                          have hp : pfx s k ⟨#[47, 42, 33]⟩ = false := by
                            cases hx : pfx s k ⟨#[47, 42, 33]⟩ with
                            | false => rfl
                            | true => obtain ⟨_, h1, h2⟩ := (pfx3 s k hlt 47 42 33).1 hx; simp at h33 h2; try omega
                          have HF := hide (a_open s k hlt hsp hl hp hq)
                          clear hl hq hp
                          go_wp2_with (go_at_call 18; refine (zzIsSpace_any _ _).mono ?_; rintro e w' ⟨rfl, rfl⟩)
                          all_goals (go_round; (case rel => exact ⟨2, k + 2, rfl, by omega, by go_num, by omega, by rw [HF.out, HR.out]⟩); (case measure => simp [intOf]; omega))
                      · have hn2' : ¬ (k : Int) + 2 < s.size := by omega
                        have hp : pfx s k ⟨#[47, 42, 33]⟩ = false := by
                          cases hx : pfx s k ⟨#[47, 42, 33]⟩ with
                          | false => rfl
                          | true => obtain ⟨_, h1, h2⟩ := (pfx3 s k hlt 47 42 33).1 hx; omega
                        have HF := hide (a_open s k hlt hsp hl hp hq)
                        clear hl hq hp
                        go_wp2_with (go_at_call 18; refine (zzIsSpace_any _ _).mono ?_; rintro e w' ⟨rfl, rfl⟩)
                        all_goals (go_round; (case rel => exact ⟨2, k + 2, rfl, by omega, by go_num, by omega, by rw [HF.out, HR.out]⟩); (case measure => simp [intOf]; omega))
                    | false =>
                      have hq : pfx s k ⟨#[47, 42]⟩ = false := by
                        cases hx : pfx s k ⟨#[47, 42]⟩ with
                        | false => rfl
                        | true => obtain ⟨_, h1, h2⟩ := (pfx2 s k hlt 47 42).1 hx; first | omega | (simp at h42 h2; try omega)
                      have hp : pfx s k ⟨#[47, 42, 33]⟩ = false := by
                        cases hx : pfx s k ⟨#[47, 42, 33]⟩ with
                        | false => rfl
                        | true => have := ((pfx3 s k hlt 47 42 33).1 hx).1; rw [hq] at this; cases this
                      have HF := hide (a_code s k hlt hsp hl hp hq)
                      clear hl hq hp
                      go_wp2_with (go_at_call 18; refine (zzIsSpace_any _ _).mono ?_; rintro e w' ⟨rfl, rfl⟩)
                      all_goals (go_ret; exact ⟨ret_int (by rw [← HR.out, HF.out]), rfl⟩)
                  · have hn1' : ¬ (k : Int) + 1 < s.size := by omega
                    have hq : pfx s k ⟨#[47, 42]⟩ = false := by
                      cases hx : pfx s k ⟨#[47, 42]⟩ with
                      | false => rfl
                      | true => obtain ⟨_, h1, h2⟩ := (pfx2 s k hlt 47 42).1 hx; first | omega | (simp at h42 h2; try omega)
                    have hp : pfx s k ⟨#[47, 42, 33]⟩ = false := by
                      cases hx : pfx s k ⟨#[47, 42, 33]⟩ with
                      | false => rfl
                      | true => have := ((pfx3 s k hlt 47 42 33).1 hx).1; rw [hq] at this; cases this
                    have HF := hide (a_code s k hlt hsp hl hp hq)
                    clear hl hq hp
                    go_wp2_with (go_at_call 18; refine (zzIsSpace_any _ _).mono ?_; rintro e w' ⟨rfl, rfl⟩)
                    all_goals (go_ret; exact ⟨ret_int (by rw [← HR.out, HF.out]), rfl⟩)
                | false =>
                  have hq : pfx s k ⟨#[47, 42]⟩ = false := by
                    cases hx : pfx s k ⟨#[47, 42]⟩ with
                    | false => rfl
                    | true => have := ((pfx2 s k hlt 47 42).1 hx).1; simp at h47 this; try omega
                  have hp : pfx s k ⟨#[47, 42, 33]⟩ = false := by
                    cases hx : pfx s k ⟨#[47, 42, 33]⟩ with
                    | false => rfl
                    | true => have := ((pfx3 s k hlt 47 42 33).1 hx).1; rw [hq] at this; cases this
                  have HF := hide (a_code s k hlt hsp hl hp hq)
                  clear hl hq hp
                  go_wp2_with (go_at_call 18; refine (zzIsSpace_any _ _).mono ?_; rintro e w' ⟨rfl, rfl⟩)
                  all_goals (go_ret; exact ⟨ret_int (by rw [← HR.out, HF.out]), rfl⟩)
        · clear ha
          cases h10 : ((s[k].toNat : Int) == 10) with
          | true =>
            have HF := hide (a_line_nl s k hlt h10)
            go_wp2_with (go_at_call 18; refine (zzIsSpace_any _ _).mono ?_; rintro e w' ⟨rfl, rfl⟩)
            all_goals (go_round; (case rel => exact ⟨0, k + 1, rfl, by omega, by go_num, by omega, by rw [HF.out, HR.out]⟩); (case measure => simp [intOf]; omega))
          | false =>
            have HF := hide (a_line s k hlt h10)
            go_wp2_with (go_at_call 18; refine (zzIsSpace_any _ _).mono ?_; rintro e w' ⟨rfl, rfl⟩)
            all_goals (go_round; (case rel => exact ⟨1, k + 1, rfl, by omega, by go_num, by omega, by rw [HF.out, HR.out]⟩); (case measure => simp [intOf]; omega))
        · clear ha
          cases h42 : ((s[k].toNat : Int) == 42) with
          | true =>
            have HF := hide (a_block_star s k hlt h42)
            go_wp2_with (go_at_call 18; refine (zzIsSpace_any _ _).mono ?_; rintro e w' ⟨rfl, rfl⟩)
            all_goals (go_round; (case rel => exact ⟨3, k + 1, rfl, by omega, by go_num, by omega, by rw [HF.out, HR.out]⟩); (case measure => simp [intOf]; omega))
          | false =>
            have HF := hide (a_block s k hlt h42)
            go_wp2_with (go_at_call 18; refine (zzIsSpace_any _ _).mono ?_; rintro e w' ⟨rfl, rfl⟩)
            all_goals (go_round; (case rel => exact ⟨2, k + 1, rfl, by omega, by go_num, by omega, by rw [HF.out, HR.out]⟩); (case measure => simp [intOf]; omega))
        · clear ha
          cases h47 : ((s[k].toNat : Int) == 47) with
          | true =>
            have HF := hide (a_star_end s k hlt h47)
            go_wp2_with (go_at_call 18; refine (zzIsSpace_any _ _).mono ?_; rintro e w' ⟨rfl, rfl⟩)
            all_goals (go_round; (case rel => exact ⟨0, k + 1, rfl, by omega, by go_num, by omega, by rw [HF.out, HR.out]⟩); (case measure => simp [intOf]; omega))
          | false =>
            cases h42 : ((s[k].toNat : Int) == 42) with
            | true =>
              have HF := hide (a_star_star s k hlt h42)
              go_wp2_with (go_at_call 18; refine (zzIsSpace_any _ _).mono ?_; rintro e w' ⟨rfl, rfl⟩)
              all_goals (go_round; (case rel => exact ⟨3, k + 1, rfl, by omega, by go_num, by omega, by rw [HF.out, HR.out]⟩); (case measure => simp [intOf]; omega))
            | false =>
              have HF := hide (a_star s k hlt h47 h42)
              go_wp2_with (go_at_call 18; refine (zzIsSpace_any _ _).mono ?_; rintro e w' ⟨rfl, rfl⟩)
              all_goals (go_round; (case rel => exact ⟨2, k + 1, rfl, by omega, by go_num, by omega, by rw [HF.out, HR.out]⟩); (case measure => simp [intOf]; omega))
      · have HF := hide (leftAt_end s a k (by omega))
        have hk' : k = s.size := by omega
        go_wp2
        go_ret
        exact ⟨ret_int (by rw [← HR.out, HF.out, hk']), rfl⟩
  · have HF := hide (at_end s i hin)
    go_enter Try.func10, Try.ntmps10
    go_wp2
    go_ret
    exact ⟨ret_int (by rw [HF.out]), rfl⟩

end Go.Proofs.Qxb6601642a
