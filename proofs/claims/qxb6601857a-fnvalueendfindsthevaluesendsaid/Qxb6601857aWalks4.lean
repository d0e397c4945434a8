/-
  THE WALKS of seat b6601857a, part 4: jvWord, stringEnd.
-/
import Derived.Test.Qxb6601857aWalks1
namespace Go.Proofs.Qxb6601857a
open Go.RowKit

/-- What jvWord answers at i. -/
def WordPost (s : ByteArray) (i n : Nat) (w : World) (e : Ending) (w' : World) : Prop :=
  (e = .returned (.tuple #[.int .i64 0, .bool false]) ∨ (e = .returned (.tuple #[.int .i64 ((i + n : Nat) : Int), .bool true]) ∧ i + n ≤ s.size ∧ Run s i (i + n))) ∧ ∃ q, w' = w.drewN q

theorem wrap_add (i k : Nat) (h1 : i ≤ 1048576) (h2 : k ≤ 1048576) : IntKind.i64.wrap ((i : Int) + (k : Int)) = (i : Int) + (k : Int) := by
  have e : IntKind.i64.wrap ((i : Int) + (k : Int)) = if ((i : Int) + (k : Int)) % 18446744073709551616 ≥ 9223372036854775808 then ((i : Int) + (k : Int)) % 18446744073709551616 - 18446744073709551616 else ((i : Int) + (k : Int)) % 18446744073709551616 := by
    simp [IntKind.wrap, IntKind.signed, IntKind.bits]
  rw [e]
  split <;> omega
theorem idx_add (s : ByteArray) (i k : Nat) (h : i + k < s.size) (w : World) : (Instr.index 9 (.string s) (.int .i64 ((i : Int) + (k : Int)))).run Try.prog w = .ok (.int .u8 (s[i + k].toNat : Int)) w := by
  rw [run_index_string w 9 s .i64 _ Try.underlying9, dif_pos (by omega)]
  simp only [show ((i : Int) + (k : Int)).toNat = i + k from by omega]
theorem idx_one (s : ByteArray) (k : Nat) (h : k < s.size) (w : World) : (Instr.index 9 (.string s) (.int .i64 (k : Int))).run Try.prog w = .ok (.int .u8 (s[k].toNat : Int)) w := by
  rw [run_index_string w 9 s .i64 _ Try.underlying9, dif_pos (by omega)]
  simp only [Int.toNat_natCast]
theorem byte_of (s t : ByteArray) (i k : Nat) (h1 : i + k < s.size) (h2 : k < t.size) (ho : ∀ k (h : k < t.size), J.ord t[k].toNat) (he : ((s[i + k].toNat : Int) != (t[k].toNat : Int)) = false) : J.ord (J.B s (i + k)) := by
  rw [J.B_at s (i + k) h1, show s[i + k].toNat = t[k].toNat from by simp at he; omega]
  exact ho k h2

set_option maxRecDepth 100000 in
set_option maxHeartbeats 1000000 in
theorem jvWord_any (s t : ByteArray) (i : Nat) (w : World) (hs : s.size ≤ 1048576) (hi : i < s.size) (ht : t.size ≤ 8) (ho : ∀ k (h : k < t.size), J.ord t[k].toNat) :
    Calls Try.prog 28 #[.string s, .int .i64 (i : Int), .string t] w fun e w' => WordPost s i t.size w e w' := by
  unfold WordPost
  have HO := hide ho
  clear ho
  by_cases hr : s.size < i + t.size
  · have hr' : (s.size : Int) - (i : Int) < (t.size : Int) := by omega
    go_enter Try.func28, Try.ntmps28
    go_wp2
    go_ret2
    exact ⟨Or.inl rfl, 0, rfl⟩
  · have hr' : decide ((s.size : Int) - (i : Int) < (t.size : Int)) = false := by simp; omega
    go_enter Try.func28, Try.ntmps28
    go_wp2
    go_loopw [8] (fun x w' => ∃ k q : Nat, x = .int .i64 (k : Int) ∧ k ≤ t.size ∧ w' = w.drewN q ∧ Run s i (i + k)) (fun x _ => t.size - (intOf x).toNat)
    case atStart => exact ⟨0, 0, rfl, Nat.zero_le _, rfl, Run.nil s i⟩
    case round =>
      obtain ⟨k, q, rfl, hk, rfl, hR⟩ := hrel
      have HR := hide hR
      clear hR
      by_cases hlt : k < t.size
      · have h1 : i + k < s.size := by omega
        have h1' : (i : Int) + (k : Int) < (s.size : Int) := by omega
        have hlt' : (k : Int) < (t.size : Int) := by omega
        have hwr : IntKind.i64.wrap ((i : Int) + (k : Int)) = (i : Int) + (k : Int) := wrap_add i k (by omega) (by omega)
        have hix := idx_add s i k h1
        have hix2 := idx_one t k hlt
        have HN := hide (byte_of s t i k h1 hlt HO.out)
        cases he : ((s[i + k].toNat : Int) != (t[k].toNat : Int)) with
        | true =>
          go_wp2_with fail
          go_quiet (fail)
          go_wp2_with fail
          go_ret2
          exact ⟨Or.inl rfl, _, World.drewN_drewN _ _ _⟩
        | false =>
          have HF := hide (HN.out he)
          clear HN
          go_wp2_with fail
          go_quiet (fail)
          go_wp2_with fail
          go_roundw
          case rel => exact ⟨k + 1, _, by go_num, by omega, rfl, HR.out.snoc HF.out⟩
          case measure => simp [intOf]; omega
      · have hke : k = t.size := by omega
        subst hke
        go_wp2
        go_ret2
        exact ⟨Or.inr ⟨by go_num, by omega, HR.out⟩, q, rfl⟩

/-! ### stringEnd -/
def quoteI (s : ByteArray) (p : Nat) : Int := Lib.indexByte (s.data.toList.drop p) 34
def escI (s : ByteArray) (p q : Nat) : Int := Lib.indexByte ((s.data.toList.drop p).take (q - p)) 92
theorem quote_any (s : ByteArray) (p : Nat) (w : World) :
    Calls Try.prog 34 #[.string (s.extract p s.size), .int .u8 34] w fun e w' => e = .returned (.int .i64 (quoteI s p)) ∧ w' = w := by
  unfold quoteI
  rw [← Lib.extract_to_end]
  exact Try.strings_IndexByte _ 34 w
theorem esc_any (s : ByteArray) (p q : Nat) (w : World) :
    Calls Try.prog 34 #[.string (s.extract p q), .int .u8 92] w fun e w' => e = .returned (.int .i64 (escI s p q)) ∧ w' = w := by
  unfold escI
  rw [← Lib.extract_data]
  exact Try.strings_IndexByte _ 92 w
theorem slice_mid (s : ByteArray) (p q : Nat) (h : p + q ≤ s.size) (w : World) : Sem.run Try.prog (Instr.slice 9 (.string s) (some (.int .i64 (p : Int))) (some (.int .i64 ((p : Int) + (q : Int)))) none) w = .ok (.string (s.extract p (p + q))) w := by
  have := run_slice_string (P := Try.prog) w 9 s .i64 .i64 (p : Int) ((p : Int) + (q : Int)) Try.underlying9 (by omega) (by omega) (by omega)
  rw [show ((p : Int) + (q : Int)).toNat = p + q from by omega, Int.toNat_natCast] at this
  exact this
theorem data_B (s : ByteArray) (k : Nat) (c : UInt8) : s.data.toList[k]? = some c ↔ J.B s k = c.toNat := by
  by_cases h : k < s.size
  · rw [Lib.data_getElem? s k h, J.B_at s k h]
    simp only [Option.some.injEq]
    exact ⟨fun e => by rw [e], fun e => UInt8.toNat_inj.1 e⟩
  · rw [J.B_out s k h, List.getElem?_eq_none (by rw [← Lib.size_eq]; omega)]
    constructor
    · intro h; cases h
    · intro h; have := c.toNat_lt; omega
theorem idx_neg {l : List UInt8} {c : UInt8} (h : Lib.indexByte l c < 0) : Lib.indexByte l c = -1 := by
  have := Lib.indexByte_ge l c
  omega
/-- A quotation mark follows: the first one. -/
theorem quote_spec (s : ByteArray) (p e : Nat) (h : J.strAt s p = some e) : ∃ q : Nat, quoteI s p = q ∧ p + q < s.size ∧ J.B s (p + q) = 34 ∧ ∀ k, p ≤ k → k < p + q → J.B s k ≠ 34 := by
  obtain ⟨_, _, q0, a, b, c⟩ := J.str_bd s _ p e (Nat.le_refl _) h
  unfold quoteI
  by_cases hn : Lib.indexByte (s.data.toList.drop p) 34 < 0
  · have := Lib.indexByte_none (idx_neg hn) (q0 - p)
    rw [List.getElem?_drop, show p + (q0 - p) = q0 from by omega] at this
    exact absurd ((data_B s q0 34).2 c) this
  · obtain ⟨q, hq⟩ := Int.eq_ofNat_of_zero_le (by omega : 0 ≤ Lib.indexByte (s.data.toList.drop p) 34)
    obtain ⟨h1, h2⟩ := Lib.indexByte_some hq
    rw [List.getElem?_drop] at h1
    have h3 := (data_B s (p + q) 34).1 h1
    refine ⟨q, hq, J.B_in s _ (by rw [h3]; decide), h3, fun k hk1 hk2 hk3 => ?_⟩
    have := h2 (k - p) (by omega)
    rw [List.getElem?_drop, show p + (k - p) = k from by omega] at this
    exact this ((data_B s k 34).2 hk3)
theorem esc_none (s : ByteArray) (p q : Nat) (h : escI s p q < 0) : ∀ k, p ≤ k → k < q → J.B s k ≠ 92 := by
  intro k h1 h2 h3
  have := Lib.indexByte_none (idx_neg h) (k - p)
  rw [List.getElem?_take, if_pos (by omega), List.getElem?_drop, show p + (k - p) = k from by omega] at this
  exact this ((data_B s k 92).2 h3)
theorem esc_some (s : ByteArray) (p q : Nat) (h : ¬ escI s p q < 0) : ∃ x : Nat, escI s p q = x ∧ p + x < q ∧ J.B s (p + x) = 92 ∧ ∀ k, p ≤ k → k < p + x → J.B s k ≠ 92 := by
  obtain ⟨x, hx⟩ := Int.eq_ofNat_of_zero_le (by omega : 0 ≤ escI s p q)
  obtain ⟨h1, h2⟩ := Lib.indexByte_some hx
  rw [List.getElem?_take] at h1
  by_cases hq : x < q - p
  · rw [if_pos hq, List.getElem?_drop] at h1
    refine ⟨x, hx, by omega, (data_B s (p + x) 92).1 h1, fun k hk1 hk2 hk3 => ?_⟩
    have := h2 (k - p) (by omega)
    rw [List.getElem?_take, if_pos (by omega), List.getElem?_drop, show p + (k - p) = k from by omega] at this
    exact this ((data_B s k 92).2 hk3)
  · rw [if_neg hq] at h1; cases h1

set_option maxRecDepth 100000 in
set_option maxHeartbeats 1000000 in
theorem stringEnd_any (s : ByteArray) (i e0 : Nat) (w : World) (hs : s.size ≤ 1048576) (hi : i < s.size) (he : J.strAt s (i + 1) = some e0) :
    Calls Try.prog 30 #[.string s, .int .i64 (i : Int)] w fun e w' => e = .returned (.int .i64 (e0 : Int)) ∧ w' = w := by
  have HE := hide he
  clear he
  go_enter Try.func30, Try.ntmps30
  go_wp2
  go_loop [1] (fun t => ∃ p : Nat, t = .int .i64 (p : Int) ∧ p ≤ s.size ∧ J.strAt s p = some e0) (fun t => s.size - (intOf t).toNat)
  case atStart => exact ⟨i + 1, by go_num, hi, HE.out⟩
  case round =>
    obtain ⟨p, rfl, hp, hr⟩ := hrel
    obtain ⟨q, hq1, hq2, hq3, hq4⟩ := quote_spec s p e0 hr
    have HQ := hide (quote_any s p w)
    rw [hq1] at HQ
    have HX := hide (esc_any s p (p + q) w)
    have hsl := slice_mid s p q (by omega)
    by_cases hx : escI s p (p + q) < 0
    · have hno := esc_none s p (p + q) hx
      have hfin : e0 = p + q + 1 := by
        have h1 := J.str_range s q p (by omega) (fun k a b => ⟨hq4 k a b, hno k a b⟩)
        rw [hr, J.str_quote s (p + q) hq3] at h1
        simp at h1
        omega
      have HFIN := hide hfin
      clear hfin hno hq4 hr
      go_wp2_with fail
      refine HQ.out.mono ?_
      rintro e w' ⟨rfl, rfl⟩
      go_wp2_with fail
      refine HX.out.mono ?_
      rintro e w' ⟨rfl, rfl⟩
      go_wp2_with fail
      go_ret
      exact ⟨ret_int (by rw [HFIN.out]; omega), rfl⟩
    · obtain ⟨x, hx1, hx2, hx3, hx4⟩ := esc_some s p (p + q) hx
      have hnext : J.strAt s (p + x + 2) = some e0 := by
        have h1 := J.str_range s x p (by omega) (fun k a b => ⟨hq4 k a (by omega), hx4 k a b⟩)
        rw [hr] at h1
        rw [J.str_esc s (p + x) hx3, h1]
      have HN := hide hnext
      rw [hx1] at HX
      have hlt := (J.str_lt hnext)
      clear hnext hx4 hq4 hr hx hx1
      go_wp2_with fail
      refine HQ.out.mono ?_
      rintro e w' ⟨rfl, rfl⟩
      go_wp2_with fail
      refine HX.out.mono ?_
      rintro e w' ⟨rfl, rfl⟩
      go_wp2_with fail
      go_round
      case rel => exact ⟨p + x + 2, by go_num, by omega, HN.out⟩
      case measure => simp [intOf]; omega

end Go.Proofs.Qxb6601857a
