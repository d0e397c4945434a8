/-
  THE WALKS of seat b6602242a, part 1: the measures of size, the search for a slash, the copy.
-/
import Derived.Test.Qxb6602242aRows
import Derived.Test.Qxb6602242aShelf
import Derived.Test.Qxb6602242aPlain
import Derived.WalkKit
import Derived.Deep.DeepCutAuto
import Derived.Deep.QuietTactic
import Derived.BigQuiet
import Derived.BigRegion
import Derived.WalkLawsBesides
import Derived.Deep.OwnRows
import Derived.Lib.SliceRun
namespace Go.Proofs.Qxb6602242a
open Go.RowKit

theorem hide {p : Prop} (h : p) : Hid p := h
theorem ret_int {k : IntKind} {a b : Int} (h : a = b) : Ending.returned (.int k a) = .returned (.int k b) := by rw [h]
theorem ret_bool {a b : Bool} (h : a = b) : Ending.returned (.bool a) = .returned (.bool b) := by rw [h]

/-- A slice of n one-cell elements, the k-th holding f k. -/
def Sl (w : World) (a : Option Addr) (n : Nat) (f : Nat → Value) : Prop :=
  n = 0 ∨ ∃ b off, a = some ⟨b, off, none⟩ ∧ b < w.heap.size ∧ ∀ k, k < n → w.cell? ⟨b, off + k, none⟩ = some (f k)
theorem Sl.below {w w' : World} {a : Option Addr} {n : Nat} {f : Nat → Value} (h : Sl w a n f) (hb : Below w.heap.size w w') : Sl w' a n f := by
  rcases h with h | ⟨b, off, rfl, hlt, hc⟩
  · exact Or.inl h
  · exact Or.inr ⟨b, off, rfl, Nat.lt_of_lt_of_le hlt hb.size, fun k hk => (hb.cell (p := ⟨b, off + k, none⟩) hlt).trans (hc k hk)⟩
theorem Sl.drewN {w : World} {a : Option Addr} {n : Nat} {f : Nat → Value} (h : Sl w a n f) (q : Nat) : Sl (w.drewN q) a n f := h


set_option maxRecDepth 100000 in
set_option maxHeartbeats 400000 in
theorem stringsBytes_any (a : Option Addr) (n cap : Nat) (t : Nat → ByteArray) (w : World) (hn : n ≤ 1048576) (h : Sl w a n (fun k => .string (t k))) :
    Calls Try.prog 21 #[.slice a n cap] w fun e w' => (∃ x : Int, e = .returned (.int .i64 x)) ∧ w' = w := by
  have b1 : decide (1048576 < (n : Int)) = false := by simp; omega
  rcases h with rfl | ⟨b, off, rfl, hlt, hc⟩
  · go_enter Try.func21, Try.ntmps21
    go_wp2
    refine wp_loop_rounds 1 ?_
    rw [rounds_succ]
    go_wp2
    go_ret
    exact ⟨⟨_, rfl⟩, rfl⟩
  · have HC := hide hc
    clear hc
    go_enter Try.func21, Try.ntmps21
    go_wp2
    go_loop [3, 4] (fun y i => ∃ (x : Int) (k : Nat), y = .int .i64 x ∧ i = .int .i64 (k : Int) ∧ k ≤ n) (fun _ i => n - (intOf i).toNat)
    case atStart => exact ⟨_, 0, rfl, rfl, Nat.zero_le _⟩
    case round =>
      obtain ⟨x, k, rfl, rfl, hk⟩ := hrel
      by_cases hkn : k < n
      · have hcell := HC.out k hkn
        go_wp2
        all_goals first | (go_round; (case rel => exact ⟨_, k + 1, rfl, by go_num, by omega⟩); (case measure => simp [intOf]; omega)) | (go_ret; exact ⟨⟨_, rfl⟩, rfl⟩)
      · go_wp2
        go_ret
        exact ⟨⟨_, rfl⟩, rfl⟩

set_option maxRecDepth 100000 in
set_option maxHeartbeats 400000 in
theorem rawBytes_any (a : Option Addr) (n cap : Nat) (t : Nat → ByteArray) (w : World) (hn : n ≤ 1048576) (h : Sl w a n (fun k => .string (t k))) :
    Calls Try.prog 22 #[.slice a n cap] w fun e w' => (∃ x : Int, e = .returned (.int .i64 x)) ∧ w' = w := by
  have b1 : decide (1048576 < (n : Int)) = false := by simp; omega
  rcases h with rfl | ⟨b, off, rfl, hlt, hc⟩
  · go_enter Try.func22, Try.ntmps22
    go_wp2
    refine wp_loop_rounds 1 ?_
    rw [rounds_succ]
    go_wp2
    go_ret
    exact ⟨⟨_, rfl⟩, rfl⟩
  · have HC := hide hc
    clear hc
    go_enter Try.func22, Try.ntmps22
    go_wp2
    go_loop [3, 4] (fun y i => ∃ (x : Int) (k : Nat), y = .int .i64 x ∧ i = .int .i64 (k : Int) ∧ k ≤ n) (fun _ i => n - (intOf i).toNat)
    case atStart => exact ⟨_, 0, rfl, rfl, Nat.zero_le _⟩
    case round =>
      obtain ⟨x, k, rfl, rfl, hk⟩ := hrel
      by_cases hkn : k < n
      · have hcell := HC.out k hkn
        go_wp2
        all_goals first | (go_round; (case rel => exact ⟨_, k + 1, rfl, by go_num, by omega⟩); (case measure => simp [intOf]; omega)) | (go_ret; exact ⟨⟨_, rfl⟩, rfl⟩)
      · go_wp2
        go_ret
        exact ⟨⟨_, rfl⟩, rfl⟩

/-- What the first measure answers: where true, the lengths are small. -/
def Small (n l : Nat) (t : Nat → ByteArray) (e : Ending) : Prop := e = .returned (.bool false) ∨ (e = .returned (.bool true) ∧ n ≤ 1048576 ∧ l ≤ 1048576 ∧ ∀ k, k < n → (t k).size ≤ 1048576)
theorem small_no (n l : Nat) (t : Nat → ByteArray) : Small n l t (.returned (.bool false)) := Or.inl rfl

set_option maxRecDepth 100000 in
set_option maxHeartbeats 1000000 in
theorem bytes_any (d : Bool) (a : Option Addr) (n c : Nat) (t : Nat → ByteArray) (m : ByteArray) (y : Int) (w : World) (hn : n ≤ 9223372036854775807) (hm : m.size ≤ 9223372036854775807)
    (h : Sl w a n (fun k => .string (t k))) :
    Calls Try.prog 27 #[.bool d, .slice a n c, .string m, .int .i64 y] w fun e w' => Small n m.size t e ∧ w' = w := by
  by_cases g1 : n ≤ 1048576
  · have b1 : decide (1048576 < (n : Int)) = false := by simp; omega
    have H := hide h
    clear h
    go_enter Try.func27, Try.ntmps27
    go_wp2
    go_loop [9, 10] (fun y i => ∃ (x : Int) (k : Nat), y = .int .i64 x ∧ i = .int .i64 (k : Int) ∧ k ≤ n ∧ 0 ≤ x ∧ x ≤ 1048576 ∧ Hid (∀ j, j < k → (t j).size ≤ 1048576)) (fun _ i => n - (intOf i).toNat)
    case atStart => exact ⟨_, 0, rfl, rfl, Nat.zero_le _, by omega, by omega, fun j hj => by omega⟩
    case round =>
      obtain ⟨x, k, rfl, rfl, hk, hx0, hx1, HS⟩ := hrel
      by_cases hkn : k < n
      · rcases H.out with h0 | ⟨b, off, rfl, hlt, hc⟩
        · omega
        · have hcell := hc k hkn
          clear hc
          by_cases hsz : (t k).size ≤ 1048576
          · have HS2 : Hid (∀ j, j < k + 1 → (t j).size ≤ 1048576) := fun j hj => by
              by_cases hjk : j = k
              · subst hjk; exact hsz
              · exact HS.out j (by omega)
            go_wp2
            all_goals first | (go_round; (case rel => exact ⟨_, k + 1, rfl, by go_num, by omega, by omega, by omega, HS2⟩); (case measure => simp [intOf]; omega)) | (go_ret; exact ⟨small_no _ _ _, rfl⟩)
          · go_wp2
            go_ret
            exact ⟨small_no _ _ _, rfl⟩
      · by_cases g3 : m.size ≤ 1048576
        · by_cases e3 : x + m.size ≤ 1048576
          · have HF : Hid (Small n m.size t (.returned (.bool true))) := Or.inr ⟨rfl, g1, g3, fun j hj => HS.out j (by omega)⟩
            go_wp2
            go_ret
            exact ⟨HF.out, rfl⟩
          · go_wp2
            go_ret
            exact ⟨small_no _ _ _, rfl⟩
        · go_wp2
          go_ret
          exact ⟨small_no _ _ _, rfl⟩
  · go_enter Try.func27, Try.ntmps27
    go_wp2
    go_ret
    exact ⟨small_no _ _ _, rfl⟩

/-- What a search for a slash answers. -/
def SlashPost (p : Prop) (e : Ending) : Prop := e = .returned (.bool true) ∨ (e = .returned (.bool false) ∧ p)
set_option maxRecDepth 100000 in
set_option maxHeartbeats 400000 in
theorem hasSlash_any (s : ByteArray) (w : World) (hs : s.size ≤ 1048576) :
    Calls Try.prog 34 #[.string s] w fun e w' => SlashPost (P.free s) e ∧ w' = w := by
  go_enter Try.func34, Try.ntmps34
  go_wp2
  go_loop [3] (fun i => ∃ k : Nat, i = .int .i64 (k : Int) ∧ k ≤ s.size ∧ Hid (∀ j, j < k → P.B s j ≠ 47)) (fun i => s.size - (intOf i).toNat)
  case atStart => exact ⟨0, rfl, Nat.zero_le _, fun j h => by omega⟩
  case round =>
    obtain ⟨k, rfl, hk, HR⟩ := hrel
    by_cases hlt : k < s.size
    · cases h47 : ((s[k].toNat : Int) == 47) with
      | true =>
        go_wp2
        go_ret
        exact ⟨Or.inl rfl, rfl⟩
      | false =>
        have HN : Hid (P.B s k ≠ 47) := by show _ ≠ _; rw [P.B_at s k hlt]; simp at h47; omega
        go_wp2
        go_round
        case rel => exact ⟨k + 1, by go_num, by omega, fun j h => by
          by_cases hjk : j = k
          · rw [hjk]; exact HN.out
          · exact HR.out j (by omega)⟩
        case measure => simp [intOf]; omega
    · have HF : Hid (P.free s) := fun j hj => HR.out j (by omega)
      go_wp2
      go_ret
      exact ⟨Or.inr ⟨rfl, HF.out⟩, rfl⟩

set_option maxRecDepth 100000 in
set_option maxHeartbeats 400000 in
theorem anySlash_any (a : Option Addr) (n c : Nat) (t : Nat → ByteArray) (w : World) (hn : n ≤ 1048576) (hs : ∀ k, k < n → (t k).size ≤ 1048576) (hp : 0 < n) (h : Sl w a n (fun k => .string (t k))) :
    Calls Try.prog 28 #[.slice a n c] w fun e w' => SlashPost (∀ k, k < n → P.free (t k)) e ∧ w' = w := by
  rcases h with rfl | ⟨b, off, rfl, hlt, hc⟩
  · omega
  have HC := hide hc
  have HS := hide hs
  clear hc hs
  go_enter Try.func28, Try.ntmps28
  go_wp2
  go_loop [3] (fun i => ∃ k : Nat, i = .int .i64 (k : Int) ∧ k ≤ n ∧ Hid (∀ j, j < k → P.free (t j))) (fun i => n - (intOf i).toNat)
  case atStart => exact ⟨0, rfl, Nat.zero_le _, fun j h => by omega⟩
  case round =>
    obtain ⟨k, rfl, hk, HR⟩ := hrel
    by_cases hlt : k < n
    · have hcell := HC.out k hlt
      have HQ := fun W => hide (hasSlash_any (t k) W (HS.out k hlt))
      go_wp2_with fail
      refine (HQ _).out.mono ?_
      rintro e w' ⟨rfl | ⟨rfl, hf⟩, rfl⟩
      · go_wp2_with fail
        go_ret
        exact ⟨Or.inl rfl, rfl⟩
      · have HF := hide hf
        clear hf
        go_wp2_with fail
        go_round
        case rel => exact ⟨k + 1, by go_num, by omega, fun j h => by
          by_cases hjk : j = k
          · rw [hjk]; exact HF.out
          · exact HR.out j (by omega)⟩
        case measure => simp [intOf]; omega
    · have HF : Hid (∀ k, k < n → P.free (t k)) := fun j hj => HR.out j (by omega)
      go_wp2
      go_ret
      exact ⟨Or.inr ⟨rfl, HF.out⟩, rfl⟩

def ArrV (w : World) (b n : Nat) (z : Nat → Value) : Prop := ∀ k, k < n → w.cell? ⟨b, k, none⟩ = some (z k) ∧ w.frozen? ⟨b, k, none⟩ = false
def putV (z : Nat → Value) (i : Nat) (v : Value) : Nat → Value := fun k => if k = i then v else z k
theorem putV_same (z : Nat → Value) (i : Nat) (v : Value) : putV z i v i = v := by unfold putV; rw [if_pos rfl]
theorem putV_other (z : Nat → Value) (i k : Nat) (v : Value) (h : k ≠ i) : putV z i v k = z k := by unfold putV; rw [if_neg h]
theorem ArrV.set {w : World} {b n : Nat} {z : Nat → Value} (h : ArrV w b n z) (i : Nat) (hi : i < n) (v : Value) : ArrV (w.setCell ⟨b, i, none⟩ v) b n (putV z i v) := by
  intro k hk
  refine ⟨?_, by rw [World.frozen?_setCell]; exact (h k hk).2⟩
  by_cases hki : k = i
  · subst hki; rw [putV_same]; exact World.cell?_setCell_same w _ _ (h k hk).1
  · rw [putV_other z i k v hki, World.cell?_setCell_other w _ _ _ (by intro e; injection e with _ e2; exact hki e2.symm)]
    exact (h k hk).1
theorem arrV_made (w : World) (v : Value) (n : Nat) (e : TypeId) : ArrV (w.alloc (.cells (madeCells #[v] n) e)) w.heap.size n (fun _ => v) := by
  intro k hk
  have hb : (w.alloc (.cells (madeCells #[v] n) e)).heap[w.heap.size]? = some (.cells (madeCells #[v] n) e) := (MapKept.heap_alloc w _).1
  refine ⟨?_, ?_⟩
  · unfold World.cell?
    rw [hb]
    simp [madeCells, hk, Nat.mod_one]
  · unfold World.frozen?
    rw [hb]
    simp

theorem Try.info9 : (Try.prog.info? 9).map (fun i => (i.zero, i.size, i.bytes)) = some (some (.string ByteArray.empty), 1, 16) := by kernel_rfl

/-- A clone: a slice of the same elements, in new memory. -/
def Cloned (n : Nat) (f : Nat → Value) (w : World) (e : Ending) (w' : World) : Prop := ∃ a : Option Addr, e = .returned (.slice a n n) ∧ Sl w' a n f ∧ Below w.heap.size w w'

set_option maxRecDepth 100000 in
set_option maxHeartbeats 1000000 in
theorem cloneS_any (a : Option Addr) (n cap : Nat) (t : Nat → ByteArray) (w : World) (hn : n ≤ 1048576) (hz : a = none → n = 0) (h : Sl w a n (fun k => .string (t k))) :
    Calls Try.prog 23 #[.slice a n cap] w fun e w' => Cloned n (fun k => .string (t k)) w e w' := by
  have hnil := fun W => Lib.run_eql_slice_nil (P := Try.prog) W 37 9 a n cap 0 0 Try.underlying37
  have hmk := run_make_row' (P := Try.prog) 37 9 (.string ByteArray.empty) 16 Try.underlying37 Try.info9 rfl .i64 .i64 n (by omega) (by omega)
  have HM := hide (arrV_made w (.string ByteArray.empty) n 9)
  cases a with
  | none =>
    have hn0 := hz rfl
    subst hn0
    go_enter Try.func23, Try.ntmps23
    go_wp2
    go_ret
    exact ⟨none, rfl, Or.inl rfl, Below.refl _ _⟩
  | some x =>
    rcases h with rfl | ⟨b, off, hx, hlt, hc⟩
    · clear hz
      have hmk0 : ∀ W : World, (Instr.makeSlice 37 (.int .i64 0) (.int .i64 0)).run Try.prog W = .ok (.slice (some ⟨W.heap.size, 0, none⟩) 0 0) (W.alloc (.cells (madeCells #[.string ByteArray.empty] 0) 9)) := hmk
      go_enter Try.func23, Try.ntmps23
      go_wp2
      refine wp_loop_rounds 1 ?_
      rw [rounds_succ]
      go_wp2
      go_ret
      exact ⟨_, rfl, Or.inl rfl, (Below.refl _ _).alloc (Nat.le_refl _) _⟩
    · have hx' := Option.some.inj hx
      subst hx'
      clear hx hz
      have HC := hide hc
      clear hc
      go_enter Try.func23, Try.ntmps23
      go_wp2
      go_loopw [4] (fun i wr => ∃ (k : Nat) (z : Nat → Value), i = .int .i64 (k : Int) ∧ k ≤ n ∧ Hid (ArrV wr w.heap.size n z) ∧ Hid (∀ j, j < k → z j = .string (t j)) ∧ Hid (Below w.heap.size (w.alloc (.cells (madeCells #[.string ByteArray.empty] n) 9)) wr)) (fun i _ => n - (intOf i).toNat)
      case atStart => exact ⟨0, _, rfl, Nat.zero_le _, HM, fun j hj => by omega, Below.refl _ _⟩
      case round =>
        obtain ⟨k, z, rfl, hk, HA, HZ, HB⟩ := hrel
        have hsz : w.heap.size + 1 ≤ wr.heap.size := by have := HB.out.size; simpa using this
        by_cases hkn : k < n
        · have hcell : wr.cell? ⟨b, off + k, none⟩ = some (.string (t k)) := by
            rw [HB.out.cell (p := ⟨b, off + k, none⟩) hlt, World.cell?_alloc_lt w _ _ hlt]
            exact HC.out k hkn
          have hold := (HA.out k hkn).1
          have hfr := (HA.out k hkn).2
          have HA2 := hide (HA.out.set k hkn (.string (t k)))
          have HB2 := hide (HB.out.setCell (p := ⟨w.heap.size, k, none⟩) (Nat.le_refl _) (.string (t k)))
          go_wp2
          go_roundw
          case rel => exact ⟨k + 1, _, by go_num, by omega, HA2, fun j hj => by
            by_cases hjk : j = k
            · subst hjk; exact putV_same _ _ _
            · rw [putV_other _ _ _ _ hjk]; exact HZ.out j (by omega), HB2⟩
          case measure => simp [intOf]; omega
        · go_wp2
          go_ret
          exact ⟨_, rfl, Or.inr ⟨_, 0, rfl, by omega, fun j hj => by rw [Nat.zero_add, (HA.out j hj).1, HZ.out j (by omega)]⟩, ((Below.refl _ _).alloc (Nat.le_refl _) _).trans HB.out⟩


end Go.Proofs.Qxb6602242a
