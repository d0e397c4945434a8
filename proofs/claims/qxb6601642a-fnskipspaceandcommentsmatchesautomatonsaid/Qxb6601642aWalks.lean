/-
  THE WALKS of seat b6601642a: skipSpaceAndComments and its callees.
-/
import Derived.Test.Qxb6601642aRows
import Derived.Test.Qxb6601642aShelf
import Derived.Test.Qxb6601642aPlain
import Derived.WalkKit
namespace Go.Proofs.Qxb6601642a
open Go.RowKit

theorem hide {p : Prop} (h : p) : Hid p := h

theorem beq_byte (c d : UInt8) : (c == d) = ((c.toNat : Int) == (d.toNat : Int)) := by
  rw [Bool.eq_iff_iff]
  simp only [beq_iff_eq]
  exact ⟨fun h => by rw [h], fun h => UInt8.toNat_inj.1 (by omega)⟩

theorem isSp_int (c : UInt8) : Skip.isSp c = ((c.toNat : Int) == 32 || (c.toNat : Int) == 9 || (c.toNat : Int) == 10 || (c.toNat : Int) == 13 || (c.toNat : Int) == 12 || (c.toNat : Int) == 11) := by
  unfold Skip.isSp
  simp only [beq_byte]
  rfl

theorem isSpace_any (c : UInt8) (w : World) :
    Calls Try.prog 20 #[.int .u8 (c.toNat : Int)] w fun e w' => e = .returned (.bool (Skip.isSp c)) ∧ w' = w := by
  have H := hide (isSp_int c)
  go_enter Try.func20, Try.ntmps20
  go_wp2
  all_goals
    go_ret
    exact ⟨by rw [H.out]; simp [*], rfl⟩

theorem drop_cons (s : ByteArray) (k : Nat) (h : k < s.size) : s.data.toList.drop k = s[k] :: s.data.toList.drop (k + 1) := by
  rw [List.drop_eq_getElem_cons (by simpa using h)]; rfl

/-! ### The library's calls, in the words of this seat -/
def pfx (s : ByteArray) (k : Nat) (p : ByteArray) : Bool := Lib.hasPrefix (s.data.toList.drop k) p.data.toList
def lineI (s : ByteArray) (k : Nat) : Int := Lib.indexByte (s.data.toList.drop k) 10
def blockI (s : ByteArray) (k : Nat) : Int := Lib.index (s.data.toList.drop (k + 2)) [42, 47]

theorem pfx_any (s : ByteArray) (k : Nat) (p : ByteArray) (w : World) :
    Calls Try.prog 21 #[.string (s.extract k s.size), .string p] w fun e w' => e = .returned (.bool (pfx s k p)) ∧ w' = w := by
  unfold pfx
  rw [← Lib.extract_to_end]
  exact Try.strings_HasPrefix _ _ w
theorem line_any (s : ByteArray) (k : Nat) (w : World) :
    Calls Try.prog 22 #[.string (s.extract k s.size), .int .u8 10] w fun e w' => e = .returned (.int .i64 (lineI s k)) ∧ w' = w := by
  unfold lineI
  rw [← Lib.extract_to_end]
  exact Try.strings_IndexByte _ 10 w
theorem block_any (s : ByteArray) (k : Nat) (w : World) (hsh : w.ShapedOpen Try.prog) (hs : s.size ≤ 1048576) :
    Calls Try.prog 23 #[.string (s.extract (k + 2) s.size), .string ⟨#[42, 47]⟩] w fun e w' => e = .returned (.int .i64 (blockI s k)) ∧ w' = w := by
  unfold blockI
  rw [← Lib.extract_to_end]
  exact Try.strings_Index_shaped _ ⟨#[42, 47]⟩ w hsh (by simp; omega)
theorem lineI_bd (s : ByteArray) (k : Nat) (h : k < s.size) : -1 ≤ lineI s k ∧ k + lineI s k < s.size := by
  unfold lineI
  have h1 := Lib.indexByte_ge (s.data.toList.drop k) 10
  have h2 := Skip.indexByte_lt (s.data.toList.drop k) 10 (by rw [drop_cons s k h]; simp)
  have h3 : (s.data.toList.drop k).length = s.size - k := by rw [List.length_drop, ← Lib.size_eq]
  omega
theorem blockI_bd (s : ByteArray) (k : Nat) : -1 ≤ blockI s k ∧ (0 ≤ blockI s k → (k : Int) + 2 + blockI s k + 2 ≤ s.size) := by
  unfold blockI
  have h1 := Lib.index_ge (s.data.toList.drop (k + 2)) [42, 47]
  have h3 : (s.data.toList.drop (k + 2)).length = s.size - (k + 2) := by rw [List.length_drop, ← Lib.size_eq]
  refine ⟨h1, fun h => ?_⟩
  have h2 := Lib.index_room _ _ h
  simp only [List.length_cons, List.length_nil] at h2
  omega

/-! ### One round, in plain words -/
section
variable (s : ByteArray) (k : Nat) (h : k < s.size)
theorem at_sp (hsp : Skip.isSp s[k] = true) : Skip.skipAt s.data.toList (k + 1) = Skip.skipAt s.data.toList k := by
  refine (Skip.skipAt_more _ k 1 ?_).symm
  rw [drop_cons s k h]
  simp [Skip.step, hsp]
theorem at_end (h' : ¬ k < s.size) : Skip.skipAt s.data.toList k = k := Skip.skipAt_past _ _ (by rw [← Lib.size_eq]; omega)
def isLine : Prop := ((s[k].toNat : Int) == 35) = true ∨ (pfx s k ⟨#[45, 45]⟩ = true ∧ (k + 2 = s.size ∨ ∃ h2 : k + 2 < s.size, Skip.isSp s[k + 2] = true))
theorem step_line (hsp : Skip.isSp s[k] = false) (hl : isLine s k h) : Skip.step (s.data.toList.drop k) = some (Skip.toLine (s.data.toList.drop k)) := by
  have hd : (s[k] == 35 || Skip.dashes (s.data.toList.drop k)) = true := by
    rcases hl with hl | ⟨hp, hl⟩
    · have : (s[k] == 35) = true := by rw [beq_byte]; exact hl
      simp [this]
    · have : Skip.dashes (s.data.toList.drop k) = true := by
        unfold pfx at hp
        unfold Skip.dashes
        have hp' : Lib.hasPrefix (s.data.toList.drop k) [45, 45] = true := hp
        rw [hp']
        have h3 : (s.data.toList.drop k).length = s.size - k := by rw [List.length_drop, ← Lib.size_eq]
        rcases hl with hl | ⟨h2, hl⟩
        · simp [h3]; left; omega
        · have e : (s.data.toList.drop k)[2]? = some s[k + 2] := by
            rw [List.getElem?_drop, Lib.data_getElem? s (k + 2) h2]
          simp [Skip.spAt, e, hl]
      simp [this]
  rw [drop_cons s k h] at hd ⊢
  simp only [Skip.step, hsp, hd]
  rfl
theorem no_line (hl : ¬ isLine s k h) : (s[k] == 35 || Skip.dashes (s.data.toList.drop k)) = false := by
  unfold isLine at hl
  have a : (s[k] == 35) = false := by
    rw [beq_byte]
    cases hh : ((s[k].toNat : Int) == ((35 : UInt8).toNat : Int)) with
    | false => rfl
    | true => exact absurd (Or.inl hh) hl
  have b : Skip.dashes (s.data.toList.drop k) = false := by
    cases hh : Skip.dashes (s.data.toList.drop k) with
    | false => rfl
    | true =>
      refine absurd (Or.inr ?_) hl
      unfold Skip.dashes at hh
      rw [Bool.and_eq_true] at hh
      refine ⟨hh.1, ?_⟩
      have h3 : (s.data.toList.drop k).length = s.size - k := by rw [List.length_drop, ← Lib.size_eq]
      have h4 := hh.2
      rw [Bool.or_eq_true] at h4
      rcases h4 with h4 | h4
      · left; simp [h3] at h4; omega
      · right
        unfold Skip.spAt at h4
        split at h4
        · rename_i c hc
          rw [List.getElem?_drop] at hc
          by_cases h2 : k + 2 < s.size
          · rw [Lib.data_getElem? s (k + 2) h2] at hc
            simp at hc
            exact ⟨h2, by rw [hc]; exact h4⟩
          · rw [List.getElem?_eq_none (by rw [← Lib.size_eq]; omega)] at hc
            simp at hc
        · simp at h4
  rw [a, b]
  rfl
theorem at_line_end (hsp : Skip.isSp s[k] = false) (hl : isLine s k h) (he : lineI s k < 0) : Skip.skipAt s.data.toList k = s.size := by
  have e := step_line s k h hsp hl
  rw [Skip.skipAt_more _ _ _ e]
  have h3 : (s.data.toList.drop k).length = s.size - k := by rw [List.length_drop, ← Lib.size_eq]
  have : Skip.toLine (s.data.toList.drop k) = s.size - k := by unfold lineI at he; unfold Skip.toLine; rw [if_pos he, h3]
  rw [this, Skip.skipAt_past _ _ (by rw [← Lib.size_eq]; omega)]
  omega
theorem at_line (hsp : Skip.isSp s[k] = false) (hl : isLine s k h) (he : ¬ lineI s k < 0) : Skip.skipAt s.data.toList (k + ((lineI s k).toNat + 1)) = Skip.skipAt s.data.toList k := by
  have e := step_line s k h hsp hl
  rw [Skip.skipAt_more _ _ _ e]
  have : Skip.toLine (s.data.toList.drop k) = (lineI s k).toNat + 1 := by unfold lineI at he; unfold Skip.toLine; rw [if_neg he]; rfl
  rw [this]
theorem at_exec (hsp : Skip.isSp s[k] = false) (hl : ¬ isLine s k h) (hp : pfx s k ⟨#[47, 42, 33]⟩ = true) : Skip.skipAt s.data.toList k = -1 := by
  refine Skip.skipAt_none _ _ ?_
  have hn := no_line s k h hl
  have hp' : Lib.hasPrefix (s.data.toList.drop k) [47, 42, 33] = true := hp
  rw [drop_cons s k h] at hn hp' ⊢
  simp only [Skip.step, hsp, hn, hp']
  rfl
theorem step_block (hsp : Skip.isSp s[k] = false) (hl : ¬ isLine s k h) (hp : pfx s k ⟨#[47, 42, 33]⟩ = false) (hq : pfx s k ⟨#[47, 42]⟩ = true) : Skip.step (s.data.toList.drop k) = some (Skip.toBlock (s.data.toList.drop k)) := by
  have hn := no_line s k h hl
  have hp' : Lib.hasPrefix (s.data.toList.drop k) [47, 42, 33] = false := hp
  have hq' : Lib.hasPrefix (s.data.toList.drop k) [47, 42] = true := hq
  rw [drop_cons s k h] at hn hp' hq' ⊢
  simp only [Skip.step, hsp, hn, hp', hq']
  rfl
theorem blk_eq : Lib.index ((s.data.toList.drop k).drop 2) [42, 47] = blockI s k := by unfold blockI; rw [List.drop_drop]
theorem at_block_end (hsp : Skip.isSp s[k] = false) (hl : ¬ isLine s k h) (hp : pfx s k ⟨#[47, 42, 33]⟩ = false) (hq : pfx s k ⟨#[47, 42]⟩ = true) (he : blockI s k < 0) : Skip.skipAt s.data.toList k = s.size := by
  rw [Skip.skipAt_more _ _ _ (step_block s k h hsp hl hp hq)]
  have h3 : (s.data.toList.drop k).length = s.size - k := by rw [List.length_drop, ← Lib.size_eq]
  have : Skip.toBlock (s.data.toList.drop k) = s.size - k := by unfold Skip.toBlock; rw [blk_eq, if_pos he, h3]
  rw [this, Skip.skipAt_past _ _ (by rw [← Lib.size_eq]; omega)]
  omega
theorem at_block (hsp : Skip.isSp s[k] = false) (hl : ¬ isLine s k h) (hp : pfx s k ⟨#[47, 42, 33]⟩ = false) (hq : pfx s k ⟨#[47, 42]⟩ = true) (he : ¬ blockI s k < 0) : Skip.skipAt s.data.toList (k + ((blockI s k).toNat + 4)) = Skip.skipAt s.data.toList k := by
  rw [Skip.skipAt_more _ _ _ (step_block s k h hsp hl hp hq)]
  have : Skip.toBlock (s.data.toList.drop k) = (blockI s k).toNat + 4 := by unfold Skip.toBlock; rw [blk_eq, if_neg he]
  rw [this]
theorem at_code (hsp : Skip.isSp s[k] = false) (hl : ¬ isLine s k h) (hp : pfx s k ⟨#[47, 42, 33]⟩ = false) (hq : pfx s k ⟨#[47, 42]⟩ = false) : Skip.skipAt s.data.toList k = k := by
  refine Skip.skipAt_zero _ _ ?_
  have hn := no_line s k h hl
  have hp' : Lib.hasPrefix (s.data.toList.drop k) [47, 42, 33] = false := hp
  have hq' : Lib.hasPrefix (s.data.toList.drop k) [47, 42] = false := hq
  rw [drop_cons s k h] at hn hp' hq' ⊢
  simp only [Skip.step, hsp, hn, hp', hq']
  rfl
theorem pfx_room (p : ByteArray) (hp : pfx s k p = true) : p.size = 0 ∨ k + p.size ≤ s.size := by
  unfold pfx Lib.hasPrefix at hp
  have := (List.isPrefixOf_iff_prefix.1 hp).length_le
  rw [List.length_drop, ← Lib.size_eq, ← Lib.size_eq] at this
  omega
end

theorem ret_int {k : IntKind} {a b : Int} (h : a = b) : Ending.returned (.int k a) = .returned (.int k b) := by rw [h]

set_option maxHeartbeats 1000000 in
theorem skip_any (s : ByteArray) (i : Nat) (w : World) (hsh : w.ShapedOpen Try.prog) (hs : s.size ≤ 1048576) (hi : (i : Int) ≤ 9223372036854775807) :
    Calls Try.prog 17 #[.string s, .int .i64 (i : Int)] w fun e w' => e = .returned (.int .i64 (Skip.skipAt s.data.toList i)) ∧ w' = w := by
  go_enter Try.func17, Try.ntmps17
  go_wp2
  go_loop [1] (fun t => ∃ k : Nat, t = .int .i64 (k : Int) ∧ (k : Int) ≤ 9223372036854775807 ∧ Skip.skipAt s.data.toList k = Skip.skipAt s.data.toList i) (fun t => s.size - (intOf t).toNat)
  case atStart => exact ⟨i, rfl, hi, rfl⟩
  case round =>
    obtain ⟨k, rfl, hk, hr⟩ := hrel
    have HR := hide hr
    clear hr
    by_cases hlt : k < s.size
    · cases hsp : Skip.isSp s[k] with
      | true =>
        have HF := hide (at_sp s k hlt hsp)
        go_wp2_with (go_at_call 20; refine (isSpace_any _ _).mono ?_; rintro e w' ⟨rfl, rfl⟩)
        go_round
        case rel => exact ⟨k + 1, by go_num, by omega, by rw [HF.out, HR.out]⟩
        case measure => simp [intOf]; omega
      | false =>
        have hb := lineI_bd s k hlt
        by_cases h35 : ((s[k].toNat : Int) == 35) = true
        · have hl : isLine s k hlt := Or.inl h35
          by_cases he : lineI s k < 0
          · have HF := hide (at_line_end s k hlt hsp hl he)
            clear hl
            go_wp2_with (first | (go_at_call 20; refine (isSpace_any _ _).mono ?_; rintro e w' ⟨rfl, rfl⟩) | (go_at_call 22; refine (line_any _ _ _).mono ?_; rintro e w' ⟨rfl, rfl⟩))
            go_ret
            exact ⟨ret_int (by rw [← HR.out, HF.out]), rfl⟩
          · have HF := hide (at_line s k hlt hsp hl he)
            clear hl
            go_wp2_with (first | (go_at_call 20; refine (isSpace_any _ _).mono ?_; rintro e w' ⟨rfl, rfl⟩) | (go_at_call 22; refine (line_any _ _ _).mono ?_; rintro e w' ⟨rfl, rfl⟩))
            go_round
            case rel => exact ⟨k + ((lineI s k).toNat + 1), by go_num, by omega, by rw [HF.out, HR.out]⟩
            case measure => simp [intOf]; omega
        · have h35' : ((s[k].toNat : Int) == 35) = false := by simpa using h35
          cases hp : pfx s k ⟨#[45, 45]⟩ with
          | true =>
            have hr1 := pfx_room s k ⟨#[45, 45]⟩ hp
            have hr1' : k + 2 ≤ s.size := by rcases hr1 with hr1 | hr1; · cases hr1
                                             · exact hr1
            clear hr1
            by_cases h2e : k + 2 = s.size
            · have hl : isLine s k hlt := Or.inr ⟨hp, Or.inl h2e⟩
              have hbe : ((k : Int) + 2 == (s.size : Int)) = true := by rw [beq_iff_eq]; omega
              have H2e := hide h2e
              clear h2e
              by_cases he : lineI s k < 0
              · have HF := hide (at_line_end s k hlt hsp hl he)
                clear hl
                go_wp2_with (first | (go_at_call 20; refine (isSpace_any _ _).mono ?_; rintro e w' ⟨rfl, rfl⟩) | (go_at_call 21; refine (pfx_any _ _ _ _).mono ?_; rintro e w' ⟨rfl, rfl⟩) | (go_at_call 22; refine (line_any _ _ _).mono ?_; rintro e w' ⟨rfl, rfl⟩) | (go_at_call 23; refine (block_any _ _ _ hsh hs).mono ?_; rintro e w' ⟨rfl, rfl⟩))
                go_ret
                exact ⟨ret_int (by rw [← HR.out, HF.out]), rfl⟩
              · have HF := hide (at_line s k hlt hsp hl he)
                clear hl
                go_wp2_with (first | (go_at_call 20; refine (isSpace_any _ _).mono ?_; rintro e w' ⟨rfl, rfl⟩) | (go_at_call 21; refine (pfx_any _ _ _ _).mono ?_; rintro e w' ⟨rfl, rfl⟩) | (go_at_call 22; refine (line_any _ _ _).mono ?_; rintro e w' ⟨rfl, rfl⟩) | (go_at_call 23; refine (block_any _ _ _ hsh hs).mono ?_; rintro e w' ⟨rfl, rfl⟩))
                go_round
                case rel => exact ⟨k + ((lineI s k).toNat + 1), by go_num, by omega, by rw [HF.out, HR.out]⟩
                case measure => simp [intOf]; omega
            · have hbe : ((k : Int) + 2 == (s.size : Int)) = false := by rw [beq_eq_false_iff_ne]; omega
              have h2l : k + 2 < s.size := by omega
              cases hsp2 : Skip.isSp s[k + 2] with
              | true =>
                have hl : isLine s k hlt := Or.inr ⟨hp, Or.inr ⟨h2l, hsp2⟩⟩
                by_cases he : lineI s k < 0
                · have HF := hide (at_line_end s k hlt hsp hl he)
                  clear hl
                  go_wp2_with (first | (go_at_call 20; refine (isSpace_any _ _).mono ?_; rintro e w' ⟨rfl, rfl⟩) | (go_at_call 21; refine (pfx_any _ _ _ _).mono ?_; rintro e w' ⟨rfl, rfl⟩) | (go_at_call 22; refine (line_any _ _ _).mono ?_; rintro e w' ⟨rfl, rfl⟩) | (go_at_call 23; refine (block_any _ _ _ hsh hs).mono ?_; rintro e w' ⟨rfl, rfl⟩))
                  go_ret
                  exact ⟨ret_int (by rw [← HR.out, HF.out]), rfl⟩
                · have HF := hide (at_line s k hlt hsp hl he)
                  clear hl
                  go_wp2_with (first | (go_at_call 20; refine (isSpace_any _ _).mono ?_; rintro e w' ⟨rfl, rfl⟩) | (go_at_call 21; refine (pfx_any _ _ _ _).mono ?_; rintro e w' ⟨rfl, rfl⟩) | (go_at_call 22; refine (line_any _ _ _).mono ?_; rintro e w' ⟨rfl, rfl⟩) | (go_at_call 23; refine (block_any _ _ _ hsh hs).mono ?_; rintro e w' ⟨rfl, rfl⟩))
                  go_round
                  case rel => exact ⟨k + ((lineI s k).toNat + 1), by go_num, by omega, by rw [HF.out, HR.out]⟩
                  case measure => simp [intOf]; omega
              | false =>
                have hl : ¬ isLine s k hlt := by
                  rintro (a | ⟨_, a | ⟨_, a⟩⟩)
                  · exact h35 a
                  · exact h2e a
                  · rw [hsp2] at a; cases a
                cases h3 : pfx s k ⟨#[47, 42, 33]⟩ with
                | true =>
                  have HF := hide (at_exec s k hlt hsp hl h3)
                  clear hl
                  go_wp2_with (first | (go_at_call 20; refine (isSpace_any _ _).mono ?_; rintro e w' ⟨rfl, rfl⟩) | (go_at_call 21; refine (pfx_any _ _ _ _).mono ?_; rintro e w' ⟨rfl, rfl⟩) | (go_at_call 22; refine (line_any _ _ _).mono ?_; rintro e w' ⟨rfl, rfl⟩) | (go_at_call 23; refine (block_any _ _ _ hsh hs).mono ?_; rintro e w' ⟨rfl, rfl⟩))
                  go_ret
                  exact ⟨ret_int (by rw [← HR.out, HF.out]), rfl⟩
                | false =>
                  cases h2 : pfx s k ⟨#[47, 42]⟩ with
                  | true =>
                    have hr2 := pfx_room s k ⟨#[47, 42]⟩ h2
                    have hr2' : k + 2 ≤ s.size := by rcases hr2 with hr2 | hr2; · cases hr2
                                                     · exact hr2
                    clear hr2
                    obtain ⟨hb1, hb2⟩ := blockI_bd s k
                    by_cases he : blockI s k < 0
                    · have HF := hide (at_block_end s k hlt hsp hl h3 h2 he)
                      clear hl hb2
                      go_wp2_with (first | (go_at_call 20; refine (isSpace_any _ _).mono ?_; rintro e w' ⟨rfl, rfl⟩) | (go_at_call 21; refine (pfx_any _ _ _ _).mono ?_; rintro e w' ⟨rfl, rfl⟩) | (go_at_call 22; refine (line_any _ _ _).mono ?_; rintro e w' ⟨rfl, rfl⟩) | (go_at_call 23; refine (block_any _ _ _ hsh hs).mono ?_; rintro e w' ⟨rfl, rfl⟩))
                      go_ret
                      exact ⟨ret_int (by rw [← HR.out, HF.out]), rfl⟩
                    · have HF := hide (at_block s k hlt hsp hl h3 h2 he)
                      have hb3 := hb2 (by omega)
                      clear hl hb2
                      go_wp2_with (first | (go_at_call 20; refine (isSpace_any _ _).mono ?_; rintro e w' ⟨rfl, rfl⟩) | (go_at_call 21; refine (pfx_any _ _ _ _).mono ?_; rintro e w' ⟨rfl, rfl⟩) | (go_at_call 22; refine (line_any _ _ _).mono ?_; rintro e w' ⟨rfl, rfl⟩) | (go_at_call 23; refine (block_any _ _ _ hsh hs).mono ?_; rintro e w' ⟨rfl, rfl⟩))
                      go_round
                      case rel => exact ⟨k + ((blockI s k).toNat + 4), by go_num, by omega, by rw [HF.out, HR.out]⟩
                      case measure => simp [intOf]; omega
                  | false =>
                    have HF := hide (at_code s k hlt hsp hl h3 h2)
                    clear hl
                    go_wp2_with (first | (go_at_call 20; refine (isSpace_any _ _).mono ?_; rintro e w' ⟨rfl, rfl⟩) | (go_at_call 21; refine (pfx_any _ _ _ _).mono ?_; rintro e w' ⟨rfl, rfl⟩) | (go_at_call 22; refine (line_any _ _ _).mono ?_; rintro e w' ⟨rfl, rfl⟩) | (go_at_call 23; refine (block_any _ _ _ hsh hs).mono ?_; rintro e w' ⟨rfl, rfl⟩))
                    go_ret
                    exact ⟨ret_int (by rw [← HR.out, HF.out]), rfl⟩
          | false =>
            have hl : ¬ isLine s k hlt := by
              rintro (a | ⟨a, _⟩)
              · exact h35 a
              · rw [hp] at a; cases a
            cases h3 : pfx s k ⟨#[47, 42, 33]⟩ with
            | true =>
              have HF := hide (at_exec s k hlt hsp hl h3)
              clear hl
              go_wp2_with (first | (go_at_call 20; refine (isSpace_any _ _).mono ?_; rintro e w' ⟨rfl, rfl⟩) | (go_at_call 21; refine (pfx_any _ _ _ _).mono ?_; rintro e w' ⟨rfl, rfl⟩) | (go_at_call 22; refine (line_any _ _ _).mono ?_; rintro e w' ⟨rfl, rfl⟩) | (go_at_call 23; refine (block_any _ _ _ hsh hs).mono ?_; rintro e w' ⟨rfl, rfl⟩))
              go_ret
              exact ⟨ret_int (by rw [← HR.out, HF.out]), rfl⟩
            | false =>
              cases h2 : pfx s k ⟨#[47, 42]⟩ with
              | true =>
                have hr2 := pfx_room s k ⟨#[47, 42]⟩ h2
                have hr2' : k + 2 ≤ s.size := by rcases hr2 with hr2 | hr2; · cases hr2
                                                 · exact hr2
                clear hr2
                obtain ⟨hb1, hb2⟩ := blockI_bd s k
                by_cases he : blockI s k < 0
                · have HF := hide (at_block_end s k hlt hsp hl h3 h2 he)
                  clear hl hb2
                  go_wp2_with (first | (go_at_call 20; refine (isSpace_any _ _).mono ?_; rintro e w' ⟨rfl, rfl⟩) | (go_at_call 21; refine (pfx_any _ _ _ _).mono ?_; rintro e w' ⟨rfl, rfl⟩) | (go_at_call 22; refine (line_any _ _ _).mono ?_; rintro e w' ⟨rfl, rfl⟩) | (go_at_call 23; refine (block_any _ _ _ hsh hs).mono ?_; rintro e w' ⟨rfl, rfl⟩))
                  go_ret
                  exact ⟨ret_int (by rw [← HR.out, HF.out]), rfl⟩
                · have HF := hide (at_block s k hlt hsp hl h3 h2 he)
                  have hb3 := hb2 (by omega)
                  clear hl hb2
                  go_wp2_with (first | (go_at_call 20; refine (isSpace_any _ _).mono ?_; rintro e w' ⟨rfl, rfl⟩) | (go_at_call 21; refine (pfx_any _ _ _ _).mono ?_; rintro e w' ⟨rfl, rfl⟩) | (go_at_call 22; refine (line_any _ _ _).mono ?_; rintro e w' ⟨rfl, rfl⟩) | (go_at_call 23; refine (block_any _ _ _ hsh hs).mono ?_; rintro e w' ⟨rfl, rfl⟩))
                  go_round
                  case rel => exact ⟨k + ((blockI s k).toNat + 4), by go_num, by omega, by rw [HF.out, HR.out]⟩
                  case measure => simp [intOf]; omega
              | false =>
                have HF := hide (at_code s k hlt hsp hl h3 h2)
                clear hl
                go_wp2_with (first | (go_at_call 20; refine (isSpace_any _ _).mono ?_; rintro e w' ⟨rfl, rfl⟩) | (go_at_call 21; refine (pfx_any _ _ _ _).mono ?_; rintro e w' ⟨rfl, rfl⟩) | (go_at_call 22; refine (line_any _ _ _).mono ?_; rintro e w' ⟨rfl, rfl⟩) | (go_at_call 23; refine (block_any _ _ _ hsh hs).mono ?_; rintro e w' ⟨rfl, rfl⟩))
                go_ret
                exact ⟨ret_int (by rw [← HR.out, HF.out]), rfl⟩
    · have HF := hide (at_end s k hlt)
      go_wp2
      go_ret
      exact ⟨ret_int (by rw [← HR.out, HF.out]), rfl⟩

end Go.Proofs.Qxb6601642a
