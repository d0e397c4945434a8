/-
  THE WALKS of seat b6602103a, part 2: the clones.
-/
import Derived.Test.Qxb6602103aWalks1
import Derived.Deep.OwnRows
import Derived.Lib.SliceRun
namespace Go.Proofs.Qxb6602103a
open Go.RowKit

def ArrV (w : World) (b n : Nat) (z : Nat → Value) : Prop := ∀ k, k < n → w.cell? ⟨b, k, none⟩ = some (z k) ∧ w.frozen? ⟨b, k, none⟩ = false
def putV (z : Nat → Value) (i : Nat) (v : Value) : Nat → Value := fun k => if k = i then v else z k
theorem putV_same (z : Nat → Value) (i : Nat) (v : Value) : putV z i v i = v := by unfold putV; rw [if_pos rfl]
theorem putV_other (z : Nat → Value) (i k : Nat) (v : Value) (h : k ≠ i) : putV z i v k = z k := by unfold putV; rw [if_neg h]
theorem ArrV.set {w : World} {b n : Nat} {z : Nat → Value} (h : ArrV w b n z) (i : Nat) (hi : i < n) (v : Value) : ArrV (w.setCell ⟨b, i, none⟩ v) b n (putV z i v) := by
  intro k hk
  refine ⟨?_, by rw [World.frozen?_setCell]; exact (h k hk).2⟩
  by_cases hki : k = i
  · subst hki; rw [putV_same]; exact World.cell?_setCell_same w _ _ (h k hk).1
  · rw [putV_other z i k v hki, World.cell?_setCell_other w _ _ _ (by intro e; injection e with _ e2; exact hki e2.symm)]
    exact (h k hk).1
theorem arrV_made (w : World) (v : Value) (n : Nat) (e : TypeId) : ArrV (w.alloc (.cells (madeCells #[v] n) e)) w.heap.size n (fun _ => v) := by
  intro k hk
  have hb : (w.alloc (.cells (madeCells #[v] n) e)).heap[w.heap.size]? = some (.cells (madeCells #[v] n) e) := (MapKept.heap_alloc w _).1
  refine ⟨?_, ?_⟩
  · unfold World.cell?
    rw [hb]
    simp [madeCells, hk, Nat.mod_one]
  · unfold World.frozen?
    rw [hb]
    simp

theorem run_store_float (P : Program) (w : World) (a : Addr) (k : FloatKind) (b : Nat) (m : Mode) : (store a (.float k b) m).run P w = stored P w a (.float k b) m := run_store P w a _ m rfl
attribute [local go_sem] run_store_float

theorem Try.info9 : (Try.prog.info? 9).map (fun i => (i.zero, i.size, i.bytes)) = some (some (.string ByteArray.empty), 1, 16) := by kernel_rfl
theorem Try.info28 : (Try.prog.info? 28).map (fun i => (i.zero, i.size, i.bytes)) = some (some (.float .f64 0), 1, 8) := by kernel_rfl

/-- A clone: a slice of the same elements, in new memory. -/
def Cloned (n : Nat) (f : Nat → Value) (w : World) (e : Ending) (w' : World) : Prop := ∃ (a : Option Addr) (c : Nat), e = .returned (.slice a n c) ∧ Sl w' a n f ∧ Below w.heap.size w w'

set_option maxRecDepth 100000 in
set_option maxHeartbeats 1000000 in
theorem cloneS_any (a : Option Addr) (n cap : Nat) (t : Nat → ByteArray) (w : World) (hn : n ≤ 1048576) (hz : a = none → n = 0) (h : Sl w a n (fun k => .string (t k))) :
    Calls Try.prog 12 #[.slice a n cap] w fun e w' => Cloned n (fun k => .string (t k)) w e w' := by
  have hnil := fun W => Lib.run_eql_slice_nil (P := Try.prog) W 22 9 a n cap 0 0 Try.underlying22
  have hmk := run_make_row' (P := Try.prog) 22 9 (.string ByteArray.empty) 16 Try.underlying22 Try.info9 rfl .i64 .i64 n (by omega) (by omega)
  have HM := hide (arrV_made w (.string ByteArray.empty) n 9)
  cases a with
  | none =>
    have hn0 := hz rfl
    subst hn0
    go_enter Try.func12, Try.ntmps12
    go_wp2
    go_ret
    exact ⟨none, 0, rfl, Or.inl rfl, Below.refl _ _⟩
  | some x =>
    rcases h with rfl | ⟨b, off, hx, hlt, hc⟩
    · clear hz
      have hmk0 : ∀ W : World, (Instr.makeSlice 22 (.int .i64 0) (.int .i64 0)).run Try.prog W = .ok (.slice (some ⟨W.heap.size, 0, none⟩) 0 0) (W.alloc (.cells (madeCells #[.string ByteArray.empty] 0) 9)) := hmk
      go_enter Try.func12, Try.ntmps12
      go_wp2
      refine wp_loop_rounds 1 ?_
      rw [rounds_succ]
      go_wp2
      go_ret
      exact ⟨_, 0, rfl, Or.inl rfl, (Below.refl _ _).alloc (Nat.le_refl _) _⟩
    · have hx' := Option.some.inj hx
      subst hx'
      clear hx hz
      have HC := hide hc
      clear hc
      go_enter Try.func12, Try.ntmps12
      go_wp2
      go_loopw [4] (fun i wr => ∃ (k : Nat) (z : Nat → Value), i = .int .i64 (k : Int) ∧ k ≤ n ∧ Hid (ArrV wr w.heap.size n z) ∧ Hid (∀ j, j < k → z j = .string (t j)) ∧ Hid (Below w.heap.size (w.alloc (.cells (madeCells #[.string ByteArray.empty] n) 9)) wr)) (fun i _ => n - (intOf i).toNat)
      case atStart => exact ⟨0, _, rfl, Nat.zero_le _, HM, fun j hj => by omega, Below.refl _ _⟩
      case round =>
        obtain ⟨k, z, rfl, hk, HA, HZ, HB⟩ := hrel
        have hsz : w.heap.size + 1 ≤ wr.heap.size := by have := HB.out.size; simpa using this
        by_cases hkn : k < n
        · have hcell : wr.cell? ⟨b, off + k, none⟩ = some (.string (t k)) := by
            rw [HB.out.cell (p := ⟨b, off + k, none⟩) hlt, World.cell?_alloc_lt w _ _ hlt]
            exact HC.out k hkn
          have hold := (HA.out k hkn).1
          have hfr := (HA.out k hkn).2
          have HA2 := hide (HA.out.set k hkn (.string (t k)))
          have HB2 := hide (HB.out.setCell (p := ⟨w.heap.size, k, none⟩) (Nat.le_refl _) (.string (t k)))
          go_wp2
          go_roundw
          case rel => exact ⟨k + 1, _, by go_num, by omega, HA2, fun j hj => by
            by_cases hjk : j = k
            · subst hjk; exact putV_same _ _ _
            · rw [putV_other _ _ _ _ hjk]; exact HZ.out j (by omega), HB2⟩
          case measure => simp [intOf]; omega
        · go_wp2
          go_ret
          exact ⟨_, n, rfl, Or.inr ⟨_, 0, rfl, by omega, fun j hj => by rw [Nat.zero_add, (HA.out j hj).1, HZ.out j (by omega)]⟩, ((Below.refl _ _).alloc (Nat.le_refl _) _).trans HB.out⟩

set_option maxRecDepth 100000 in
set_option maxHeartbeats 1000000 in
theorem cloneF_any (a : Option Addr) (n cap : Nat) (t : Nat → Nat) (w : World) (hn : n ≤ 1048576) (hz : a = none → n = 0) (h : Sl w a n (fun k => .float .f64 (t k))) :
    Calls Try.prog 13 #[.slice a n cap] w fun e w' => Cloned n (fun k => .float .f64 (t k)) w e w' := by
  have hnil := fun W => Lib.run_eql_slice_nil (P := Try.prog) W 23 28 a n cap 0 0 Try.underlying23
  have hmk := run_make_row' (P := Try.prog) 23 28 (.float .f64 0) 8 Try.underlying23 Try.info28 rfl .i64 .i64 n (by omega) (by omega)
  have HM := hide (arrV_made w (.float .f64 0) n 28)
  cases a with
  | none =>
    have hn0 := hz rfl
    subst hn0
    go_enter Try.func13, Try.ntmps13
    go_wp2
    go_ret
    exact ⟨none, 0, rfl, Or.inl rfl, Below.refl _ _⟩
  | some x =>
    rcases h with rfl | ⟨b, off, hx, hlt, hc⟩
    · clear hz
      have hmk0 : ∀ W : World, (Instr.makeSlice 23 (.int .i64 0) (.int .i64 0)).run Try.prog W = .ok (.slice (some ⟨W.heap.size, 0, none⟩) 0 0) (W.alloc (.cells (madeCells #[.float .f64 0] 0) 28)) := hmk
      go_enter Try.func13, Try.ntmps13
      go_wp2
      refine wp_loop_rounds 1 ?_
      rw [rounds_succ]
      go_wp2
      go_ret
      exact ⟨_, 0, rfl, Or.inl rfl, (Below.refl _ _).alloc (Nat.le_refl _) _⟩
    · have hx' := Option.some.inj hx
      subst hx'
      clear hx hz
      have HC := hide hc
      clear hc
      go_enter Try.func13, Try.ntmps13
      go_wp2
      go_loopw [4] (fun i wr => ∃ (k : Nat) (z : Nat → Value), i = .int .i64 (k : Int) ∧ k ≤ n ∧ Hid (ArrV wr w.heap.size n z) ∧ Hid (∀ j, j < k → z j = .float .f64 (t j)) ∧ Hid (Below w.heap.size (w.alloc (.cells (madeCells #[.float .f64 0] n) 28)) wr)) (fun i _ => n - (intOf i).toNat)
      case atStart => exact ⟨0, _, rfl, Nat.zero_le _, HM, fun j hj => by omega, Below.refl _ _⟩
      case round =>
        obtain ⟨k, z, rfl, hk, HA, HZ, HB⟩ := hrel
        have hsz : w.heap.size + 1 ≤ wr.heap.size := by have := HB.out.size; simpa using this
        by_cases hkn : k < n
        · have hcell : wr.cell? ⟨b, off + k, none⟩ = some (.float .f64 (t k)) := by
            rw [HB.out.cell (p := ⟨b, off + k, none⟩) hlt, World.cell?_alloc_lt w _ _ hlt]
            exact HC.out k hkn
          have hold := (HA.out k hkn).1
          have hfr := (HA.out k hkn).2
          have HA2 := hide (HA.out.set k hkn (.float .f64 (t k)))
          have HB2 := hide (HB.out.setCell (p := ⟨w.heap.size, k, none⟩) (Nat.le_refl _) (.float .f64 (t k)))
          go_wp2
          go_roundw
          case rel => exact ⟨k + 1, _, by go_num, by omega, HA2, fun j hj => by
            by_cases hjk : j = k
            · subst hjk; exact putV_same _ _ _
            · rw [putV_other _ _ _ _ hjk]; exact HZ.out j (by omega), HB2⟩
          case measure => simp [intOf]; omega
        · go_wp2
          go_ret
          exact ⟨_, n, rfl, Or.inr ⟨_, 0, rfl, by omega, fun j hj => by rw [Nat.zero_add, (HA.out j hj).1, HZ.out j (by omega)]⟩, ((Below.refl _ _).alloc (Nat.le_refl _) _).trans HB.out⟩

end Go.Proofs.Qxb6602103a
