/-
  THE WALKS of seat b6602103a, part 5: ZZquality.
-/
import Derived.Test.Qxb6602103aWalks4
import Derived.BigRegion
namespace Go.Proofs.Qxb6602103a
open Go.RowKit

attribute [local go_sem] run_store_float

theorem Try.info52 : (Try.prog.info? 52).map (fun i => (i.zero, i.size, i.bytes)) = some (some (.agg #[.string ByteArray.empty, .string ByteArray.empty, .float .f64 0]), 3, 40) := by kernel_rfl
def zero3 : Array Value := #[.string ByteArray.empty, .string ByteArray.empty, .float .f64 0]
theorem make_ranges (n : Nat) (hn : n ≤ 1048576) (w : World) :
    (Instr.makeSlice 50 (.int .i64 (n : Int)) (.int .i64 (n : Int))).run Try.prog w = .ok (.slice (some ⟨w.heap.size, 0, none⟩) n n) (w.alloc (.cells (madeCells zero3 (n * 3)) 52)) := by
  obtain ⟨i, hi, hzz⟩ := Option.map_eq_some_iff.1 Try.info52
  simp only [Prod.mk.injEq] at hzz
  obtain ⟨hz, hs, hb⟩ := hzz
  have := run_make (P := Try.prog) w 50 52 i _ Try.underlying50 hi hz .i64 .i64 (n : Int) (n : Int) (by omega) (Int.le_refl _) (by rw [hb]; omega) (by omega)
  simp only [Int.toNat_natCast, hs] at this
  exact this
theorem arr3_made (w : World) (n : Nat) : ∃ z : Nat → Value, ArrV (w.alloc (.cells (madeCells zero3 (n * 3)) 52)) w.heap.size (n * 3) z := by
  have hb : (w.alloc (.cells (madeCells zero3 (n * 3)) 52)).heap[w.heap.size]? = some (.cells (madeCells zero3 (n * 3)) 52) := (MapKept.heap_alloc w _).1
  refine ⟨fun k => zero3[k % zero3.size]!, fun k hk => ⟨?_, ?_⟩⟩
  · unfold World.cell?
    rw [hb]
    simp [madeCells, hk]
  · unfold World.frozen?
    rw [hb]
    simp

theorem put3 (z : Nat → Value) (k : Nat) (t1 t2 : Nat → ByteArray) (q : Nat → Nat) (h : ∀ j, j < k → z (j * 3) = .string (t1 j) ∧ z (j * 3 + 1) = .string (t2 j) ∧ z (j * 3 + 2) = .float .f64 (q j)) :
    ∀ j, j < k + 1 → putV (putV (putV z (k * 3) (.string (t1 k))) (k * 3 + 1) (.string (t2 k))) (k * 3 + 2) (.float .f64 (q k)) (j * 3) = .string (t1 j) ∧ putV (putV (putV z (k * 3) (.string (t1 k))) (k * 3 + 1) (.string (t2 k))) (k * 3 + 2) (.float .f64 (q k)) (j * 3 + 1) = .string (t2 j) ∧ putV (putV (putV z (k * 3) (.string (t1 k))) (k * 3 + 1) (.string (t2 k))) (k * 3 + 2) (.float .f64 (q k)) (j * 3 + 2) = .float .f64 (q j) := by
  intro j hj
  by_cases hjk : j = k
  · subst hjk
    refine ⟨?_, ?_, putV_same _ _ _⟩
    · rw [putV_other _ _ _ _ (by omega), putV_other _ _ _ _ (by omega), putV_same]
    · rw [putV_other _ _ _ _ (by omega), putV_same]
  · obtain ⟨a, b, c⟩ := h j (by omega)
    refine ⟨?_, ?_, ?_⟩
    · rw [putV_other _ _ _ _ (by omega), putV_other _ _ _ _ (by omega), putV_other _ _ _ _ (by omega), a]
    · rw [putV_other _ _ _ _ (by omega), putV_other _ _ _ _ (by omega), putV_other _ _ _ _ (by omega), b]
    · rw [putV_other _ _ _ _ (by omega), putV_other _ _ _ _ (by omega), putV_other _ _ _ _ (by omega), c]

set_option maxRecDepth 100000 in
set_option maxHeartbeats 1000000 in
theorem zzquality_pos (b1 o1 b2 o2 b3 o3 : Nat) (n c1 c2 c3 : Nat) (t1 t2 : Nat → ByteArray) (q : Nat → Nat) (m : ByteArray) (x : Int) (w : World) (hn : n ≤ 1048576) (hm : m.size ≤ 1048576) (hg : w.cell? ⟨0, 0, none⟩ = some (.int .i64 x)) (hg0 : 0 < w.heap.size)
    (l1 : b1 < w.heap.size) (l2 : b2 < w.heap.size) (l3 : b3 < w.heap.size)
    (h1 : ∀ k, k < n → w.cell? ⟨b1, o1 + k, none⟩ = some (.string (t1 k))) (h2 : ∀ k, k < n → w.cell? ⟨b2, o2 + k, none⟩ = some (.string (t2 k))) (h3 : ∀ k, k < n → w.cell? ⟨b3, o3 + k, none⟩ = some (.float .f64 (q k))) :
    Calls Try.prog 14 #[.slice (some ⟨b1, o1, none⟩) n c1, .slice (some ⟨b2, o2, none⟩) n c2, .slice (some ⟨b3, o3, none⟩) n c3, .string m] w fun e w' => QPost (spAt t1 t2 m) q n w e w' := by
  unfold QPost
  have hmk := make_ranges n hn
  obtain ⟨z0, hA0⟩ := arr3_made w n
  have HA0 := hide hA0
  have H1 := hide h1
  have H2 := hide h2
  have H3 := hide h3
  clear hA0 h1 h2 h3
  go_enter Try.func14, Try.ntmps14
  go_wp2
  go_loopw [10] (fun i wr => ∃ (k : Nat) (z : Nat → Value), i = .int .i64 (k : Int) ∧ k ≤ n ∧ Hid (ArrV wr w.heap.size (n * 3) z) ∧ Hid (∀ j, j < k → z (j * 3) = .string (t1 j) ∧ z (j * 3 + 1) = .string (t2 j) ∧ z (j * 3 + 2) = .float .f64 (q j)) ∧ Hid (Below w.heap.size (w.alloc (.cells (madeCells zero3 (n * 3)) 52)) wr)) (fun i _ => n - (intOf i).toNat)
  case atStart => exact ⟨0, z0, rfl, Nat.zero_le _, HA0, fun j hj => by omega, Below.refl _ _⟩
  case round =>
    obtain ⟨k, z, rfl, hk, HA, HZ, HB⟩ := hrel
    have hsz : w.heap.size + 1 ≤ wr.heap.size := by have := HB.out.size; simpa using this
    by_cases hkn : k < n
    · have g1 : wr.cell? ⟨b1, o1 + k, none⟩ = some (.string (t1 k)) := by
        rw [HB.out.cell (p := ⟨b1, o1 + k, none⟩) l1, World.cell?_alloc_lt w _ _ l1]; exact H1.out k hkn
      have g2 : wr.cell? ⟨b2, o2 + k, none⟩ = some (.string (t2 k)) := by
        rw [HB.out.cell (p := ⟨b2, o2 + k, none⟩) l2, World.cell?_alloc_lt w _ _ l2]; exact H2.out k hkn
      have g3 : wr.cell? ⟨b3, o3 + k, none⟩ = some (.float .f64 (q k)) := by
        rw [HB.out.cell (p := ⟨b3, o3 + k, none⟩) l3, World.cell?_alloc_lt w _ _ l3]; exact H3.out k hkn
      have d0 := (HA.out (k * 3) (by omega)).1
      have d1 := (HA.out (k * 3 + 1) (by omega)).1
      have d2 := (HA.out (k * 3 + 2) (by omega)).1
      have f0 := (HA.out (k * 3) (by omega)).2
      have f1 := (HA.out (k * 3 + 1) (by omega)).2
      have f2 := (HA.out (k * 3 + 2) (by omega)).2
      have hk' : (k : Int) < (n : Int) := by omega
      go_wp2_with fail
      have HA2 := hide (((HA.out.set (k * 3) (by omega) (.string (t1 k))).set (k * 3 + 1) (by omega) (.string (t2 k))).set (k * 3 + 2) (by omega) (.float .f64 (q k)))
      have HB2 := hide (((HB.out.setCell (p := ⟨w.heap.size, k * 3, none⟩) (Nat.le_refl _) (.string (t1 k))).setCell (p := ⟨w.heap.size, k * 3 + 1, none⟩) (Nat.le_refl _) (.string (t2 k))).setCell (p := ⟨w.heap.size, k * 3 + 2, none⟩) (Nat.le_refl _) (.float .f64 (q k))).drew
      have HZ2 : Hid (∀ j, j < k + 1 → putV (putV (putV z (k * 3) (.string (t1 k))) (k * 3 + 1) (.string (t2 k))) (k * 3 + 2) (.float .f64 (q k)) (j * 3) = .string (t1 j) ∧ putV (putV (putV z (k * 3) (.string (t1 k))) (k * 3 + 1) (.string (t2 k))) (k * 3 + 2) (.float .f64 (q k)) (j * 3 + 1) = .string (t2 j) ∧ putV (putV (putV z (k * 3) (.string (t1 k))) (k * 3 + 1) (.string (t2 k))) (k * 3 + 2) (.float .f64 (q k)) (j * 3 + 2) = .float .f64 (q j)) := put3 z k t1 t2 q HZ.out
      go_region
      go_wp2_with fail
      go_roundw
      case rel => exact ⟨k + 1, _, by go_num, by omega, HA2, HZ2, HB2⟩
      case measure => simp [intOf]; omega
    · have hke : k = n := by omega
      subst hke
      have HR : Hid (Rng wr w.heap.size k t1 t2 q) := ⟨by omega, fun j hj => ⟨by rw [(HA.out (j * 3) (by omega)).1, (HZ.out j hj).1], by rw [(HA.out (j * 3 + 1) (by omega)).1, (HZ.out j hj).2.1], by rw [(HA.out (j * 3 + 2) (by omega)).1, (HZ.out j hj).2.2]⟩⟩
      have hgw : wr.cell? ⟨0, 0, none⟩ = some (.int .i64 x) := by
        rw [HB.out.cell (p := ⟨0, 0, none⟩) hg0, World.cell?_alloc_lt w _ _ hg0]; exact hg
      have HC := hide (quality_any w.heap.size k t1 t2 q m x wr hn hm hgw HR.out)
      clear hgw
      go_wp2_with fail
      refine HC.out.mono ?_
      rintro e w2 ⟨⟨s, y, rfl, hI⟩, hb2⟩
      have HI := hide hI
      have HB2 : Hid (Below w.heap.size w w2) := (((Below.refl _ _).alloc (Nat.le_refl _) _).trans HB.out).trans (hb2.mono (by omega))
      clear hI hb2
      go_wp2_with fail
      go_ret
      exact ⟨⟨s, y, rfl, HI.out⟩, HB2.out⟩

set_option maxRecDepth 100000 in
set_option maxHeartbeats 1000000 in
theorem zzquality_zero (a1 a2 a3 : Option Addr) (c1 c2 c3 : Nat) (t1 t2 : Nat → ByteArray) (q : Nat → Nat) (m : ByteArray) (x : Int) (w : World) (hm : m.size ≤ 1048576) (hg : w.cell? ⟨0, 0, none⟩ = some (.int .i64 x)) (hg0 : 0 < w.heap.size) :
    Calls Try.prog 14 #[.slice a1 0 c1, .slice a2 0 c2, .slice a3 0 c3, .string m] w fun e w' => QPost (spAt t1 t2 m) q 0 w e w' := by
  unfold QPost
  have hmk : ∀ W : World, (Instr.makeSlice 50 (.int .i64 0) (.int .i64 0)).run Try.prog W = .ok (.slice (some ⟨W.heap.size, 0, none⟩) 0 0) (W.alloc (.cells (madeCells zero3 (0 * 3)) 52)) := make_ranges 0 (by omega)
  have HC := hide (quality_any w.heap.size 0 t1 t2 q m x (w.alloc (.cells (madeCells zero3 (0 * 3)) 52)) (by omega) hm (by rw [World.cell?_alloc_lt w _ _ hg0]; exact hg) ⟨by simp, fun k hk => by omega⟩)
  go_enter Try.func14, Try.ntmps14
  go_wp2
  refine wp_loop_rounds 1 ?_
  rw [rounds_succ]
  go_wp2_with fail
  refine HC.out.mono ?_
  rintro e w2 ⟨⟨s, y, rfl, hI⟩, hb2⟩
  have HI := hide hI
  have HB2 : Hid (Below w.heap.size w w2) := ((Below.refl _ _).alloc (Nat.le_refl _) _).trans (hb2.mono (by simp))
  clear hI hb2
  go_wp2_with fail
  go_ret
  exact ⟨⟨s, y, rfl, HI.out⟩, HB2.out⟩

theorem zzquality_any (a1 a2 a3 : Option Addr) (n c1 c2 c3 : Nat) (t1 t2 : Nat → ByteArray) (q : Nat → Nat) (m : ByteArray) (x : Int) (w : World) (hn : n ≤ 1048576) (hm : m.size ≤ 1048576) (hg : w.cell? ⟨0, 0, none⟩ = some (.int .i64 x)) (hg0 : 0 < w.heap.size)
    (h1 : Sl w a1 n (fun k => .string (t1 k))) (h2 : Sl w a2 n (fun k => .string (t2 k))) (h3 : Sl w a3 n (fun k => .float .f64 (q k))) :
    Calls Try.prog 14 #[.slice a1 n c1, .slice a2 n c2, .slice a3 n c3, .string m] w fun e w' => QPost (spAt t1 t2 m) q n w e w' := by
  rcases Nat.eq_zero_or_pos n with rfl | hpos
  · exact zzquality_zero a1 a2 a3 c1 c2 c3 t1 t2 q m x w hm hg hg0
  · rcases h1 with h0 | ⟨b1, o1, rfl, l1, hc1⟩
    · omega
    rcases h2 with h0 | ⟨b2, o2, rfl, l2, hc2⟩
    · omega
    rcases h3 with h0 | ⟨b3, o3, rfl, l3, hc3⟩
    · omega
    exact zzquality_pos b1 o1 b2 o2 b3 o3 n c1 c2 c3 t1 t2 q m x w hn hm hg hg0 l1 l2 l3 hc1 hc2 hc3
end Go.Proofs.Qxb6602103a
