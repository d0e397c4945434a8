/-
  THE WALKS of seat b6601857a, part 5: valueEnd, ZZValueEnd.
-/
import Derived.Test.Qxb6601857aWalks4
namespace Go.Proofs.Qxb6601857a
open Go.RowKit

theorem look_nil (a : Int) (w : World) : (Instr.lookup 33 (.map none) (.int .i64 a) true).run Try.prog w = .ok (.tuple #[.int .i64 0, .bool false]) w := by
  kernel_rfl
def oneMap (a v : Int) : Obj := .map #[{ key := .int .i64 a, val := .int .i64 v, born := 0 }] 1
theorem check_any (e : Bool) (a : Int) (w : World) : (Instr.checkKey e 10000 3 (.int .i64 a)).run Try.prog w = .ok () w := by kernel_rfl
theorem find_none (a : Int) (w : World) : (Instr.findKey 3 (.int .i64 a) []).run Try.prog w = .ok none w := by kernel_rfl
theorem find_one (a v : Int) (w : World) : (Instr.findKey 3 (.int .i64 a) [{ key := .int .i64 a, val := .int .i64 v, born := 0 }]).run Try.prog w = .ok (some (0, .int .i64 v)) w := by
  simp [Instr.findKey, run_underlying Try.underlying3, Instr.findNow, Instr.sameNow]
theorem look_one (a v : Int) (b : Nat) (w : World) (h : w.heap[b]? = some (oneMap a v)) : (Instr.lookup 33 (.map (some b)) (.int .i64 a) true).run Try.prog w = .ok (.tuple #[.int .i64 v, .bool true]) w := by
  unfold oneMap at h
  simp [Instr.lookup, run_underlying Try.underlying33, MapKept.run_getObj_map h, check_any, find_one, Result.andThen]
theorem push_set (h : Array Obj) (x y : Obj) : (h.push x).setIfInBounds h.size y = h.push y := by
  apply Array.ext_getElem?
  intro i
  rw [Array.getElem?_setIfInBounds, Array.getElem?_push, Array.getElem?_push]
  by_cases hi : h.size = i
  · rw [if_pos hi, if_pos hi.symm, if_pos (by simp)]
  · rw [if_neg hi, if_neg (fun e => hi e.symm), if_neg (fun e => hi e.symm)]
theorem put_one (a v : Int) (w : World) : (Instr.mapUpdate 33 (.map (some w.heap.size)) (.int .i64 a) (.int .i64 v)).run Try.prog (w.alloc (.map #[] 0)) = .ok () (w.alloc (oneMap a v)) := by
  have h : (w.alloc (.map #[] 0)).heap[w.heap.size]? = some (.map #[] 0) := (MapKept.heap_alloc w _).1
  simp [Instr.mapUpdate, run_underlying Try.underlying33, MapKept.run_getObj_map h, check_any, find_none, MapKept.run_setObj_map _ h, Result.andThen]
  show ({ w with heap := (w.heap.push (Obj.map #[] 0)).setIfInBounds w.heap.size (oneMap a v) } : World) = { w with heap := w.heap.push (oneMap a v) }
  rw [push_set]

theorem scan_in (s : ByteArray) (p d e : Nat) (h : J.scanAt s p d = some e) : p < s.size := by
  by_cases hp : p < s.size
  · exact hp
  · unfold J.scanAt at h
    cases hn : s.size + 1 - p with
    | zero => rw [hn] at h; cases h
    | succ n => rw [hn] at h; simp only [J.scanF] at h; rw [if_neg hp] at h; cases h

theorem str_case (s : ByteArray) (p e d : Nat) (hb : J.B s p = 34) (h : J.scanAt s p d = some e) : ∃ f, J.strAt s (p + 1) = some f ∧ J.scanAt s f d = some e := by
  rw [J.scanAt_eq s p d (J.B_in s p (by omega)), if_pos hb] at h
  cases hf : J.strAt s (p + 1) with
  | none => rw [hf] at h; cases h
  | some f => rw [hf] at h; exact ⟨f, rfl, h⟩

set_option maxRecDepth 100000 in
set_option maxHeartbeats 1000000 in
theorem valueEnd_str (s : ByteArray) (k e0 blk : Nat) (w : World) (hs : s.size ≤ 1048576) (hc0 : w.cell? ⟨blk, 0, none⟩ = some (.string s)) (hb : J.B s k = 34) (he : J.strAt s (k + 1) = some e0) :
    Calls Try.prog 23 #[.pointer (some ⟨blk, 0, none⟩), .int .i64 (k : Int)] w fun e w' => e = .returned (.int .i64 (e0 : Int)) ∧ w' = w := by
  have hk := J.B_in s k (by omega)
  have h34 : ((s[k].toNat : Int) == 34) = true := by rw [J.B_at s k hk] at hb; simp; omega
  have HC := hide (stringEnd_any s k e0 w hs hk he)
  clear hb he
  go_enter Try.func23, Try.ntmps23
  go_wp2_with fail
  refine HC.out.mono ?_
  rintro e w' ⟨rfl, rfl⟩
  go_wp2_with fail
  go_ret
  exact ⟨rfl, rfl⟩

set_option maxRecDepth 100000 in
set_option maxHeartbeats 1000000 in
theorem valueEnd_hit (s : ByteArray) (k blk : Nat) (x : Int) (m : Value) (w : World) (hc0 : w.cell? ⟨blk, 0, none⟩ = some (.string s)) (hc1 : w.cell? ⟨blk, 1, none⟩ = some m)
    (hlook : (Instr.lookup 33 m (.int .i64 (k : Int)) true).run Try.prog w = .ok (.tuple #[.int .i64 x, .bool true]) w) (hb : J.B s k = 123 ∨ J.B s k = 91) :
    Calls Try.prog 23 #[.pointer (some ⟨blk, 0, none⟩), .int .i64 (k : Int)] w fun e w' => e = .returned (.int .i64 x) ∧ w' = w := by
  have hk := J.B_in s k (by omega)
  rw [J.B_at s k hk] at hb
  rcases hb with hb | hb
  · have hbi : (s[k].toNat : Int) = 123 := by omega
    clear hb
    go_enter Try.func23, Try.ntmps23
    go_wp2
    go_ret
    exact ⟨rfl, rfl⟩
  · have hbi : (s[k].toNat : Int) = 91 := by omega
    clear hb
    go_enter Try.func23, Try.ntmps23
    go_wp2
    go_ret
    exact ⟨rfl, rfl⟩

set_option maxRecDepth 100000 in
set_option maxHeartbeats 2000000 in
theorem valueEnd_scan (s : ByteArray) (k e0 blk : Nat) (m : Value) (w : World) (hs : s.size ≤ 1048576) (hc0 : w.cell? ⟨blk, 0, none⟩ = some (.string s)) (hc1 : w.cell? ⟨blk, 1, none⟩ = some m)
    (hlook : (Instr.lookup 33 m (.int .i64 (k : Int)) true).run Try.prog w = .ok (.tuple #[.int .i64 0, .bool false]) w) (hb : J.B s k = 123 ∨ J.B s k = 91) (he : J.scanAt s k 0 = some e0) :
    Calls Try.prog 23 #[.pointer (some ⟨blk, 0, none⟩), .int .i64 (k : Int)] w fun e w' => e = .returned (.int .i64 (e0 : Int)) ∧ w' = w := by
  have hk := J.B_in s k (by omega)
  have HBK := hide hb
  have HE := hide he
  rw [J.B_at s k hk] at hb
  clear he
  rcases hb with hb | hb
  all_goals
    first
    | (have hbi : ((s[k].toNat : Int) == 123) = true := by simp; omega)
    | (have hbi : ((s[k].toNat : Int) == 91) = true := by simp; omega)
    go_enter Try.func23, Try.ntmps23
    go_wp2
    clear hbi hb hlook
    go_loop [1, 8] (fun x y => ∃ p d : Nat, x = .int .i64 (p : Int) ∧ y = .int .i64 (d : Int) ∧ d ≤ p ∧ (1 ≤ d ∨ p = k) ∧ J.scanAt s p d = some e0) (fun x _ => s.size - (intOf x).toNat)
    case atStart => exact ⟨k, 0, rfl, rfl, Nat.zero_le _, Or.inr rfl, HE.out⟩
    case round =>
      obtain ⟨p, d, rfl, rfl, hdp, hd1, hr⟩ := hrel
      have hp := scan_in s p d e0 hr
      have hB := J.B_at s p hp
      have hdd : 1 ≤ d ∨ s[p].toNat = 123 ∨ s[p].toNat = 91 := by
        rcases hd1 with h | h
        · exact Or.inl h
        · rw [← hB, h]; exact Or.inr HBK.out
      have HDD := hide hdd
      clear hd1 hdd
      by_cases h34 : s[p].toNat = 34
      · obtain ⟨f, hf1, hf2⟩ := str_case s p e0 d (by rw [hB]; exact h34) hr
        have hfl := J.str_lt hf1
        have HC := hide (stringEnd_any s p f w hs hp hf1)
        have HF := hide hf2
        have hi34 : ((s[p].toNat : Int) == 34) = true := by simp; omega
        have hd1 : 1 ≤ d := by have := HDD.out; omega
        clear hf1 hf2 hr hB h34 HDD
        go_wp2_with fail
        refine HC.out.mono ?_
        rintro e w' ⟨rfl, rfl⟩
        go_wp2_with fail
        go_round
        case rel => exact ⟨f, d, by go_num, rfl, by omega, by omega, HF.out⟩
        case measure => simp [intOf]; omega
      · have hn34 : ((s[p].toNat : Int) == 34) = false := by simp; omega
        by_cases h123 : s[p].toNat = 123
        · have HF : Hid (J.scanAt s (p + 1) (d + 1) = some e0) := by show _ = _; rw [← hr]; exact (J.scan_open s p d (by rw [hB]; exact Or.inl h123)).symm
          have hi123 : ((s[p].toNat : Int) == 123) = true := by simp; omega
          clear hr hB h34 h123 HDD
          go_wp2
          go_round
          case rel => exact ⟨p + 1, d + 1, by go_num, by go_num, by omega, by omega, HF.out⟩
          case measure => simp [intOf]; omega
        · have hn123 : ((s[p].toNat : Int) == 123) = false := by simp; omega
          by_cases h91 : s[p].toNat = 91
          · have HF : Hid (J.scanAt s (p + 1) (d + 1) = some e0) := by show _ = _; rw [← hr]; exact (J.scan_open s p d (by rw [hB]; exact Or.inr h91)).symm
            have hi91 : ((s[p].toNat : Int) == 91) = true := by simp; omega
            clear hr hB h34 h123 h91 HDD
            go_wp2
            go_round
            case rel => exact ⟨p + 1, d + 1, by go_num, by go_num, by omega, by omega, HF.out⟩
            case measure => simp [intOf]; omega
          · have hn91 : ((s[p].toNat : Int) == 91) = false := by simp; omega
            have hd1 : 1 ≤ d := by have := HDD.out; omega
            by_cases hcl : s[p].toNat = 125 ∨ s[p].toNat = 93
            · by_cases hde : d = 1
              · subst hde
                have HF : Hid (e0 = p + 1) := by
                  show _ = _
                  rw [J.scan_last s p (by rw [hB]; exact hcl)] at hr
                  simp at hr
                  omega
                rcases hcl with hcl | hcl
                · have hic : ((s[p].toNat : Int) == 125) = true := by simp; omega
                  clear hr hB h34 h123 h91 HDD hcl
                  go_wp2
                  go_ret
                  exact ⟨ret_int (by rw [HF.out]; omega), rfl⟩
                · have hnc : ((s[p].toNat : Int) == 125) = false := by simp; omega
                  have hic : ((s[p].toNat : Int) == 93) = true := by simp; omega
                  clear hr hB h34 h123 h91 HDD hcl
                  go_wp2
                  go_ret
                  exact ⟨ret_int (by rw [HF.out]; omega), rfl⟩
              · have HF : Hid (J.scanAt s (p + 1) (d - 1) = some e0) := by show _ = _; rw [← hr]; exact (J.scan_close s p d (by rw [hB]; exact hcl) hde).symm
                have hdn : ((d : Int) - 1 == 0) = false := by rw [beq_eq_false_iff_ne]; omega
                rcases hcl with hcl | hcl
                · have hic : ((s[p].toNat : Int) == 125) = true := by simp; omega
                  clear hr hB h34 h123 h91 HDD hcl
                  go_wp2
                  go_round
                  case rel => exact ⟨p + 1, d - 1, by go_num, by go_num, by omega, by omega, HF.out⟩
                  case measure => simp [intOf]; omega
                · have hnc : ((s[p].toNat : Int) == 125) = false := by simp; omega
                  have hic : ((s[p].toNat : Int) == 93) = true := by simp; omega
                  clear hr hB h34 h123 h91 HDD hcl
                  go_wp2
                  go_round
                  case rel => exact ⟨p + 1, d - 1, by go_num, by go_num, by omega, by omega, HF.out⟩
                  case measure => simp [intOf]; omega
            · have hn125 : ((s[p].toNat : Int) == 125) = false := by simp; omega
              have hn93 : ((s[p].toNat : Int) == 93) = false := by simp; omega
              have HF : Hid (J.scanAt s (p + 1) d = some e0) := by show _ = _; rw [← hr]; exact (J.scan_char s p d hp (by omega) (by omega) (by omega) (by omega) (by omega)).symm
              clear hr hB h34 h123 h91 HDD hcl
              go_wp2
              go_round
              case rel => exact ⟨p + 1, d, by go_num, rfl, by omega, by omega, HF.out⟩
              case measure => simp [intOf]; omega
end Go.Proofs.Qxb6601857a
