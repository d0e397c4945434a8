/-
  THE WALKS of seat b6602103a, part 7: a range put ahead.
-/
import Derived.Test.Qxb6602103aWalks5
namespace Go.Proofs.Qxb6602103a
open Go.RowKit

attribute [local go_sem] run_store_float

/-- x ahead of t. -/
def ahead {α : Type} (x : α) (t : Nat → α) : Nat → α := fun k => match k with | 0 => x | k + 1 => t k
theorem arrV_of (w : World) (cs : Array Value) (n : Nat) (e : TypeId) (z : Nat → Value) (h : ∀ k, k < n → cs[k]? = some (z k)) : ArrV (w.alloc (.cells cs e)) w.heap.size n z := by
  intro k hk
  have hb : (w.alloc (.cells cs e)).heap[w.heap.size]? = some (.cells cs e) := (MapKept.heap_alloc w _).1
  refine ⟨?_, ?_⟩
  · unfold World.cell?
    rw [hb]
    simp [h k hk]
  · unfold World.frozen?
    rw [hb]
    simp
theorem made_first (v : Value) (n : Nat) : (madeCells #[v] (n + 1))[0]? = some v := by simp [madeCells]
theorem made_one (v : Value) : madeCells #[v] 1 = #[v] := by
  apply Array.ext
  · simp [size_madeCells]
  · intro i h1 h2
    have hi : i = 0 := by simp at h2; exact h2
    subst hi
    simp [madeCells]
theorem arrV_made1 (w : World) (v x : Value) (n : Nat) (e : TypeId) : ArrV (w.alloc (.cells ((madeCells #[v] (n + 1)).setIfInBounds 0 x) e)) w.heap.size (n + 1) (putV (fun _ => v) 0 x) := by
  refine arrV_of w _ _ e _ (fun k hk => ?_)
  rw [Array.getElem?_setIfInBounds]
  by_cases hk0 : k = 0
  · subst hk0; simp [size_madeCells, putV]
  · rw [if_neg (fun h => hk0 h.symm), putV_other _ _ _ _ hk0]
    simp [madeCells, hk, Nat.mod_one]

set_option maxRecDepth 100000 in
set_option maxHeartbeats 1000000 in
theorem prependS_any (x : ByteArray) (a : Option Addr) (n cap : Nat) (t : Nat → ByteArray) (w : World) (hn : n ≤ 1048576) (h : Sl w a n (fun k => .string (t k))) :
    Calls Try.prog 19 #[.string (x), .slice a n cap] w fun e w' => Cloned (n + 1) (fun k => .string (ahead x t k)) w e w' := by
  have hmk := run_make_row' (P := Try.prog) 22 9 (.string ByteArray.empty) 16 Try.underlying22 Try.info9 rfl .i64 .i64 (n + 1) (by omega) (by omega)
  rw [show ((n + 1 : Nat) : Int) = (n : Int) + 1 from by omega] at hmk
  have HM := hide (arrV_made1 w (.string ByteArray.empty) (.string (x)) n 9)
  have h00 : (madeCells #[.string ByteArray.empty] (n + 1))[0]? = some (.string ByteArray.empty) := made_first _ n
  rcases h with rfl | ⟨b, off, rfl, hlt, hc⟩
  · have hmk0 : ∀ W : World, (Instr.makeSlice 22 (.int .i64 1) (.int .i64 1)).run Try.prog W = .ok (.slice (some ⟨W.heap.size, 0, none⟩) 1 1) (W.alloc (.cells (madeCells #[.string ByteArray.empty] 1) 9)) := hmk
    have hmd : madeCells #[.string ByteArray.empty] 1 = #[.string ByteArray.empty] := made_one _
    rw [hmd] at hmk0
    go_enter Try.func19, Try.ntmps19
    go_wp2
    refine wp_loop_rounds 1 ?_
    rw [rounds_succ]
    go_wp2
    go_ret
    refine ⟨_, 1, rfl, Or.inr ⟨_, 0, rfl, by simp, fun k hk => ?_⟩, (Below.refl _ _).alloc (Nat.le_refl _) _⟩
    obtain rfl : k = 0 := by omega
    go_simp
    rfl
  · have HC := hide hc
    clear hc
    go_enter Try.func19, Try.ntmps19
    go_wp2
    go_loopw [6] (fun i wr => ∃ (k : Nat) (z : Nat → Value), i = .int .i64 (k : Int) ∧ k ≤ n ∧ Hid (ArrV wr w.heap.size (n + 1) z) ∧ Hid (∀ j, j < k + 1 → z j = .string (ahead x t j)) ∧ Hid (Below w.heap.size (w.alloc (.cells ((madeCells #[.string ByteArray.empty] (n + 1)).setIfInBounds 0 (.string (x))) 9)) wr)) (fun i _ => n - (intOf i).toNat)
    case atStart => exact ⟨0, _, rfl, Nat.zero_le _, HM, fun j hj => by obtain rfl : j = 0 := by omega
                                                                        exact putV_same _ _ _, Below.refl _ _⟩
    case round =>
      obtain ⟨k, z, rfl, hk, HA, HZ, HB⟩ := hrel
      have hsz : w.heap.size + 1 ≤ wr.heap.size := by have := HB.out.size; simpa using this
      by_cases hkn : k < n
      · have hcell : wr.cell? ⟨b, off + k, none⟩ = some (.string (t k)) := by
          rw [HB.out.cell (p := ⟨b, off + k, none⟩) hlt, World.cell?_alloc_lt w _ _ hlt]
          exact HC.out k hkn
        have hold := (HA.out (k + 1) (by omega)).1
        have hfr := (HA.out (k + 1) (by omega)).2
        have HA2 := hide (HA.out.set (k + 1) (by omega) (.string (t k)))
        have HB2 := hide (HB.out.setCell (p := ⟨w.heap.size, k + 1, none⟩) (Nat.le_refl _) (.string (t k)))
        go_wp2
        go_roundw
        case rel => exact ⟨k + 1, _, by go_num, by omega, HA2, fun j hj => by
          by_cases hjk : j = k + 1
          · subst hjk; exact putV_same _ _ _
          · rw [putV_other _ _ _ _ hjk]; exact HZ.out j (by omega), HB2⟩
        case measure => simp [intOf]; omega
      · go_wp2
        go_ret
        exact ⟨_, n + 1, rfl, Or.inr ⟨_, 0, rfl, by omega, fun j hj => by rw [Nat.zero_add, (HA.out j hj).1, HZ.out j (by omega)]⟩, ((Below.refl _ _).alloc (Nat.le_refl _) _).trans HB.out⟩

set_option maxRecDepth 100000 in
set_option maxHeartbeats 1000000 in
theorem prependF_any (x : Nat) (a : Option Addr) (n cap : Nat) (t : Nat → Nat) (w : World) (hn : n ≤ 1048576) (h : Sl w a n (fun k => .float .f64 (t k))) :
    Calls Try.prog 20 #[.float .f64 (x), .slice a n cap] w fun e w' => Cloned (n + 1) (fun k => .float .f64 (ahead x t k)) w e w' := by
  have hmk := run_make_row' (P := Try.prog) 23 28 (.float .f64 0) 8 Try.underlying23 Try.info28 rfl .i64 .i64 (n + 1) (by omega) (by omega)
  rw [show ((n + 1 : Nat) : Int) = (n : Int) + 1 from by omega] at hmk
  have HM := hide (arrV_made1 w (.float .f64 0) (.float .f64 (x)) n 28)
  have h00 : (madeCells #[.float .f64 0] (n + 1))[0]? = some (.float .f64 0) := made_first _ n
  rcases h with rfl | ⟨b, off, rfl, hlt, hc⟩
  · have hmk0 : ∀ W : World, (Instr.makeSlice 23 (.int .i64 1) (.int .i64 1)).run Try.prog W = .ok (.slice (some ⟨W.heap.size, 0, none⟩) 1 1) (W.alloc (.cells (madeCells #[.float .f64 0] 1) 28)) := hmk
    have hmd : madeCells #[.float .f64 0] 1 = #[.float .f64 0] := made_one _
    rw [hmd] at hmk0
    go_enter Try.func20, Try.ntmps20
    go_wp2
    refine wp_loop_rounds 1 ?_
    rw [rounds_succ]
    go_wp2
    go_ret
    refine ⟨_, 1, rfl, Or.inr ⟨_, 0, rfl, by simp, fun k hk => ?_⟩, (Below.refl _ _).alloc (Nat.le_refl _) _⟩
    obtain rfl : k = 0 := by omega
    go_simp
    rfl
  · have HC := hide hc
    clear hc
    go_enter Try.func20, Try.ntmps20
    go_wp2
    go_loopw [6] (fun i wr => ∃ (k : Nat) (z : Nat → Value), i = .int .i64 (k : Int) ∧ k ≤ n ∧ Hid (ArrV wr w.heap.size (n + 1) z) ∧ Hid (∀ j, j < k + 1 → z j = .float .f64 (ahead x t j)) ∧ Hid (Below w.heap.size (w.alloc (.cells ((madeCells #[.float .f64 0] (n + 1)).setIfInBounds 0 (.float .f64 (x))) 28)) wr)) (fun i _ => n - (intOf i).toNat)
    case atStart => exact ⟨0, _, rfl, Nat.zero_le _, HM, fun j hj => by obtain rfl : j = 0 := by omega
                                                                        exact putV_same _ _ _, Below.refl _ _⟩
    case round =>
      obtain ⟨k, z, rfl, hk, HA, HZ, HB⟩ := hrel
      have hsz : w.heap.size + 1 ≤ wr.heap.size := by have := HB.out.size; simpa using this
      by_cases hkn : k < n
      · have hcell : wr.cell? ⟨b, off + k, none⟩ = some (.float .f64 (t k)) := by
          rw [HB.out.cell (p := ⟨b, off + k, none⟩) hlt, World.cell?_alloc_lt w _ _ hlt]
          exact HC.out k hkn
        have hold := (HA.out (k + 1) (by omega)).1
        have hfr := (HA.out (k + 1) (by omega)).2
        have HA2 := hide (HA.out.set (k + 1) (by omega) (.float .f64 (t k)))
        have HB2 := hide (HB.out.setCell (p := ⟨w.heap.size, k + 1, none⟩) (Nat.le_refl _) (.float .f64 (t k)))
        go_wp2
        go_roundw
        case rel => exact ⟨k + 1, _, by go_num, by omega, HA2, fun j hj => by
          by_cases hjk : j = k + 1
          · subst hjk; exact putV_same _ _ _
          · rw [putV_other _ _ _ _ hjk]; exact HZ.out j (by omega), HB2⟩
        case measure => simp [intOf]; omega
      · go_wp2
        go_ret
        exact ⟨_, n + 1, rfl, Or.inr ⟨_, 0, rfl, by omega, fun j hj => by rw [Nat.zero_add, (HA.out j hj).1, HZ.out j (by omega)]⟩, ((Below.refl _ _).alloc (Nat.le_refl _) _).trans HB.out⟩

end Go.Proofs.Qxb6602103a
