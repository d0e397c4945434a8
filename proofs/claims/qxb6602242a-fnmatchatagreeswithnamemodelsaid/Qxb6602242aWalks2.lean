/-
  THE WALKS of seat b6602242a, part 2: zzGlob.
-/
import Derived.Test.Qxb6602242aWalks1
namespace Go.Proofs.Qxb6602242a
open Go.RowKit

theorem Try.info4 : (Try.prog.info? 4).map (fun i => (i.zero, i.size, i.bytes)) = some (some (.bool false), 1, 1) := by kernel_rfl
theorem ArrV.far {w : World} {b b' n : Nat} {z : Nat → Value} (h : ArrV w b n z) (hb : b ≠ b') (i : Nat) (v : Value) : ArrV (w.setCell ⟨b', i, none⟩ v) b n z := by
  intro k hk
  refine ⟨?_, by rw [World.frozen?_setCell]; exact (h k hk).2⟩
  rw [World.cell?_setCell_other w _ _ _ (by intro e; injection e with e1 _; exact hb e1.symm)]
  exact (h k hk).1
theorem ArrV.congr {w : World} {b n : Nat} {z z' : Nat → Value} (h : ArrV w b n z) (e : ∀ k, k < n → z k = z' k) : ArrV w b n z' := fun k hk => by rw [← e k hk]; exact h k hk

/-- The two rows: block X holds r, block Y anything; both are new. -/
structure St (w wr : World) (N X Y : Nat) (r : Nat → Bool) : Prop where
  two : (X = w.heap.size ∧ Y = w.heap.size + 1) ∨ (X = w.heap.size + 1 ∧ Y = w.heap.size)
  row : ArrV wr X (N + 1) (fun k => .bool (r k))
  cur : ∃ z : Nat → Bool, ArrV wr Y (N + 1) (fun k => .bool (z k))
  below : Below w.heap.size w wr
theorem St.ne {w wr : World} {N X Y : Nat} {r : Nat → Bool} (h : St w wr N X Y r) : X ≠ Y ∧ w.heap.size ≤ X ∧ w.heap.size ≤ Y := by
  rcases h.two with ⟨a, b⟩ | ⟨a, b⟩ <;> omega

def putB (z : Nat → Bool) (i : Nat) (v : Bool) : Nat → Bool := fun k => if k = i then v else z k
theorem putB_same (z : Nat → Bool) (i : Nat) (v : Bool) : putB z i v i = v := by unfold putB; rw [if_pos rfl]
theorem putB_other (z : Nat → Bool) (i k : Nat) (v : Bool) (h : k ≠ i) : putB z i v k = z k := by unfold putB; rw [if_neg h]
theorem ArrV.setB {w : World} {b n : Nat} {z : Nat → Bool} (h : ArrV w b n (fun k => .bool (z k))) (i : Nat) (hi : i < n) (v : Bool) : ArrV (w.setCell ⟨b, i, none⟩ (.bool v)) b n (fun k => .bool (putB z i v k)) :=
  (h.set i hi (.bool v)).congr fun k _ => by
    by_cases hk : k = i
    · subst hk; rw [putV_same, putB_same]
    · rw [putV_other _ _ _ _ hk, putB_other _ _ _ _ hk]
theorem beq_nat (a b : Nat) : ((a : Int) == (b : Int)) = (a == b) := by
  rw [Bool.eq_iff_iff]
  simp only [beq_iff_eq]
  omega
theorem made_first (v : Value) (n : Nat) : (madeCells #[v] (n + 1))[0]? = some v := by simp [madeCells]

theorem cells_of (w : World) (b : Nat) (cs : Array Value) (e : TypeId) (n : Nat) (z : Nat → Value) (hb : w.heap[b]? = some (.cells cs e)) (h : ∀ k, k < n → cs[k]? = some (z k)) : ArrV w b n z := by
  intro k hk
  refine ⟨?_, ?_⟩
  · unfold World.cell?
    rw [hb]
    simp [h k hk]
  · unfold World.frozen?
    rw [hb]
    simp
theorem st_start (w : World) (N : Nat) : St w ((w.alloc (.cells ((madeCells #[.bool false] (N + 1)).setIfInBounds 0 (.bool true)) 4)).alloc (.cells (madeCells #[.bool false] (N + 1)) 4)) N w.heap.size (w.heap.size + 1) P.start := by
  refine ⟨Or.inl ⟨rfl, rfl⟩, ?_, ⟨fun _ => false, ?_⟩, ?_⟩
  · refine cells_of _ _ _ 4 _ _ (by rw [Below.heap_alloc _ _ _ (by simp)]; exact (MapKept.heap_alloc w _).1) (fun k hk => ?_)
    rw [Array.getElem?_setIfInBounds]
    by_cases hk0 : k = 0
    · subst hk0; simp [size_madeCells, P.start]
    · rw [if_neg (fun h => hk0 h.symm)]
      simp [madeCells, hk, Nat.mod_one, P.start, hk0]
  · refine cells_of _ _ (madeCells #[.bool false] (N + 1)) 4 _ _ ?_ (fun k hk => ?_)
    · have := (MapKept.heap_alloc (w.alloc (.cells ((madeCells #[.bool false] (N + 1)).setIfInBounds 0 (.bool true)) 4)) (.cells (madeCells #[.bool false] (N + 1)) 4)).1
      rw [World.size_alloc] at this
      exact this
    · simp [madeCells, hk, Nat.mod_one]
  · exact ((Below.refl _ _).alloc (Nat.le_refl _) _).alloc (by simp) _

set_option maxRecDepth 100000 in
set_option maxHeartbeats 2000000 in
theorem glob_any (a : Option Addr) (n c : Nat) (t : Nat → ByteArray) (s : ByteArray) (w : World) (hn : n ≤ 1048576) (hs : s.size ≤ 1048576) (ht : ∀ k, k < n → (t k).size ≤ 1048576) (hp : 0 < n) (h : Sl w a n (fun k => .string (t k))) :
    Calls Try.prog 25 #[.slice a n c, .string s] w fun e w' => e = .returned (.bool (P.G s t n s.size)) ∧ Below w.heap.size w w' := by
  rcases h with rfl | ⟨b, off, rfl, hlt, hc⟩
  · omega
  have HC := hide hc
  have HT := hide ht
  clear hc ht
  have hmk := run_make_row' (P := Try.prog) 22 4 (.bool false) 1 Try.underlying22 Try.info4 rfl .i64 .i64 (s.size + 1) (by omega) (by omega)
  rw [show ((s.size + 1 : Nat) : Int) = (s.size : Int) + 1 from by omega] at hmk
  have h00 := made_first (.bool false) s.size
  have HST := hide (st_start w s.size)
  go_enter Try.func25, Try.ntmps25
  go_wp2
  go_loopw [6, 7, 8] (fun row cur i wr => ∃ X Y k : Nat, row = .slice (some ⟨X, 0, none⟩) (s.size + 1) (s.size + 1) ∧ cur = .slice (some ⟨Y, 0, none⟩) (s.size + 1) (s.size + 1) ∧ i = .int .i64 (k : Int) ∧ k ≤ n ∧ Hid (St w wr s.size X Y (P.G s t k))) (fun _ _ i _ => n - (intOf i).toNat)
  case atStart => exact ⟨w.heap.size, w.heap.size + 1, 0, rfl, rfl, rfl, Nat.zero_le _, HST⟩
  case round =>
    obtain ⟨X, Y, k, rfl, rfl, rfl, hk, HS⟩ := hrel
    by_cases hkn : k < n
    · go_upto_if 31 with fail
      go_cut [6, 7] (fun row cur wx => ∃ X Y : Nat, row = .slice (some ⟨X, 0, none⟩) (s.size + 1) (s.size + 1) ∧ cur = .slice (some ⟨Y, 0, none⟩) (s.size + 1) (s.size + 1) ∧ Hid (St w wx s.size X Y (P.pre k (P.G s t k))))
      case first =>
        have hne := HS.out.ne
        by_cases hk0 : k = 0
        · subst hk0
          have HS2 : Hid (St w wr s.size X Y (P.pre 0 (P.G s t 0))) := HS
          go_wp2
          go_meet
          case rel => exact ⟨X, Y, rfl, rfl, HS2⟩
        · have hkp : 0 < (k : Int) := by omega
          obtain ⟨z0, hz0⟩ := HS.out.cur
          have HPRE : Hid (P.pre k (P.G s t k) = P.starRow (P.G s t k)) := by show _ = _; unfold P.pre; rw [if_neg hk0]
          have HX := hide HS.out.row
          have HB := hide HS.out.below
          have HTW := hide HS.out.two
          generalize P.G s t k = r at *
          have c0 : wr.cell? ⟨X, 0, none⟩ = some (.bool (r 0)) := (HX.out 0 (by omega)).1
          have d0 : wr.cell? ⟨Y, 0, none⟩ = some (.bool (z0 0)) := (hz0 0 (by omega)).1
          have f0 := (hz0 0 (by omega)).2
          have HX1 := hide (HX.out.far hne.1 0 (.bool (r 0)))
          have HY1 := hide (hz0.setB 0 (by omega) (r 0))
          have HB1 := hide (HB.out.setCell (p := ⟨Y, 0, none⟩) hne.2.2 (.bool (r 0)))
          clear hz0 hk0
          go_wp2
          go_loopw [9] (fun i wx => ∃ (j : Nat) (z : Nat → Bool), i = .int .i64 (j : Int) ∧ 1 ≤ j ∧ j ≤ s.size + 1 ∧ Hid (ArrV wx X (s.size + 1) (fun k => .bool (r k))) ∧ Hid (ArrV wx Y (s.size + 1) (fun k => .bool (z k))) ∧ Hid (∀ m, m < j → z m = P.starRow r m) ∧ Hid (Below w.heap.size w wx)) (fun i _ => s.size + 1 - (intOf i).toNat)
          case atStart => exact ⟨1, _, rfl, Nat.le_refl _, by omega, HX1, HY1, fun m hm => by rw [show m = 0 from by omega]; exact putB_same _ _ _, HB1⟩
          case round =>
            obtain ⟨j, z, rfl, hj1, hj2, HXr, HYr, HZ, HBr⟩ := hrel
            by_cases hjn : j ≤ s.size
            · have cx : wr.cell? ⟨X, j, none⟩ = some (.bool (r j)) := (HXr.out j (by omega)).1
              have cy : wr.cell? ⟨Y, j, none⟩ = some (.bool (z j)) := (HYr.out j (by omega)).1
              have fy := (HYr.out j (by omega)).2
              have cp : wr.cell? ⟨Y, j - 1, none⟩ = some (.bool (z (j - 1))) := (HYr.out (j - 1) (by omega)).1
              have hj' : (j : Int) ≤ (s.size : Int) := by omega
              have HZp := hide (HZ.out (j - 1) (by omega))
              have HST : Hid (P.starRow r j = (r j || P.starRow r (j - 1))) := by
                show _ = _
                obtain ⟨m, rfl⟩ : ∃ m, j = m + 1 := ⟨j - 1, by omega⟩
                rfl
              cases hrj : r j with
              | true =>
                rw [hrj] at cx
                have HX2 := hide (HXr.out.far hne.1 j (.bool true))
                have HY2 := hide (HYr.out.setB j (by omega) true)
                have HB2 := hide (HBr.out.setCell (p := ⟨Y, j, none⟩) hne.2.2 (.bool true))
                have HZ2 : Hid (∀ m, m < j + 1 → putB z j true m = P.starRow r m) := fun m hm => by
                  by_cases hmj : m = j
                  · subst hmj; rw [putB_same, HST.out, hrj]; rfl
                  · rw [putB_other _ _ _ _ hmj]; exact HZ.out m (by omega)
                clear hrj
                go_wp2
                go_roundw
                case rel => exact ⟨j + 1, _, by go_num, by omega, by omega, HX2, HY2, HZ2, HB2⟩
                case measure => simp [intOf]; omega
              | false =>
                rw [hrj] at cx
                have HX2 := hide (HXr.out.far hne.1 j (.bool (z (j - 1))))
                have HY2 := hide (HYr.out.setB j (by omega) (z (j - 1)))
                have HB2 := hide (HBr.out.setCell (p := ⟨Y, j, none⟩) hne.2.2 (.bool (z (j - 1))))
                have HZ2 : Hid (∀ m, m < j + 1 → putB z j (z (j - 1)) m = P.starRow r m) := fun m hm => by
                  by_cases hmj : m = j
                  · subst hmj; rw [putB_same, HST.out, hrj, HZp.out]; rfl
                  · rw [putB_other _ _ _ _ hmj]; exact HZ.out m (by omega)
                clear hrj
                go_wp2
                go_roundw
                case rel => exact ⟨j + 1, _, by go_num, by omega, by omega, HX2, HY2, HZ2, HB2⟩
                case measure => simp [intOf]; omega
            · have HSN : Hid (St w wr s.size Y X (P.pre k r)) := by
                refine ⟨by rcases HTW.out with ⟨a, b⟩ | ⟨a, b⟩ <;> omega, ?_, ⟨_, HXr.out⟩, HBr.out⟩
                rw [HPRE.out]
                exact HYr.out.congr fun m hm => by rw [HZ.out m (by omega)]
              go_wp2
              go_meet
              case rel => exact ⟨Y, X, rfl, rfl, HSN⟩
      case rest =>
      obtain ⟨X, Y, rfl, rfl, HS⟩ := hcut
      have hpart : wc.cell? ⟨b, off + k, none⟩ = some (.string (t k)) := by
        rw [HS.out.below.cell (p := ⟨b, off + k, none⟩) hlt]; exact HC.out k hkn
      have hts := HT.out k hkn
      have HGN : Hid (P.G s t (k + 1) = P.bytesRow s (t k) (P.pre k (P.G s t k)) (t k).size) := rfl
      generalize P.pre k (P.G s t k) = r0 at *
      generalize hp1 : t k = pt at *
      have HP1 := hide hp1
      clear hp1
      go_wp2
      go_loopw [6, 7, 11] (fun row cur i wr => ∃ X Y m : Nat, row = .slice (some ⟨X, 0, none⟩) (s.size + 1) (s.size + 1) ∧ cur = .slice (some ⟨Y, 0, none⟩) (s.size + 1) (s.size + 1) ∧ i = .int .i64 (m : Int) ∧ m ≤ pt.size ∧ Hid (St w wr s.size X Y (P.bytesRow s pt r0 m))) (fun _ _ i _ => pt.size - (intOf i).toNat)
      case atStart => exact ⟨X, Y, 0, rfl, rfl, rfl, Nat.zero_le _, HS⟩
      case round =>
        obtain ⟨X, Y, m, rfl, rfl, rfl, hm, HS⟩ := hrel
        by_cases hmn : m < pt.size
        · have hne := HS.out.ne
          obtain ⟨z0, hz0⟩ := HS.out.cur
          have HX := hide HS.out.row
          have HB := hide HS.out.below
          have HTW := hide HS.out.two
          have HNX : Hid (P.bytesRow s pt r0 (m + 1) = P.byteRow s (P.B pt m) (P.bytesRow s pt r0 m)) := rfl
          generalize P.bytesRow s pt r0 m = r at *
          have HBm := hide (P.B_at pt m hmn)
          have d0 : wr.cell? ⟨Y, 0, none⟩ = some (.bool (z0 0)) := (hz0 0 (by omega)).1
          have f0 := (hz0 0 (by omega)).2
          have HX1 := hide (HX.out.far hne.1 0 (.bool false))
          have HY1 := hide (hz0.setB 0 (by omega) false)
          have HB1 := hide (HB.out.setCell (p := ⟨Y, 0, none⟩) hne.2.2 (.bool false))
          clear hz0
          go_wp2
          go_loopw [13] (fun i wx => ∃ (j : Nat) (z : Nat → Bool), i = .int .i64 (j : Int) ∧ 1 ≤ j ∧ j ≤ s.size + 1 ∧ Hid (ArrV wx X (s.size + 1) (fun k => .bool (r k))) ∧ Hid (ArrV wx Y (s.size + 1) (fun k => .bool (z k))) ∧ Hid (∀ q, q < j → z q = P.byteRow s (P.B pt m) r q) ∧ Hid (Below w.heap.size w wx)) (fun i _ => s.size + 1 - (intOf i).toNat)
          case atStart => exact ⟨1, _, rfl, Nat.le_refl _, by omega, HX1, HY1, fun q hq => by rw [show q = 0 from by omega]; exact putB_same _ _ _, HB1⟩
          case round =>
            obtain ⟨j, z, rfl, hj1, hj2, HXr, HYr, HZ, HBr⟩ := hrel
            by_cases hjn : j ≤ s.size
            · have cx : wr.cell? ⟨X, j - 1, none⟩ = some (.bool (r (j - 1))) := (HXr.out (j - 1) (by omega)).1
              have cy : wr.cell? ⟨Y, j, none⟩ = some (.bool (z j)) := (HYr.out j (by omega)).1
              have fy := (HYr.out j (by omega)).2
              have hj' : (j : Int) ≤ (s.size : Int) := by omega
              have hjs : j - 1 < s.size := by omega
              have HBs := hide (P.B_at s (j - 1) hjs)
              have HST : Hid (P.byteRow s (P.B pt m) r j = (r (j - 1) && (P.B s (j - 1) == P.B pt m))) := by
                show _ = _
                obtain ⟨q, rfl⟩ : ∃ q, j = q + 1 := ⟨j - 1, by omega⟩
                rfl
              cases hrj : r (j - 1) with
              | false =>
                rw [hrj] at cx
                have HX2 := hide (HXr.out.far hne.1 j (.bool false))
                have HY2 := hide (HYr.out.setB j (by omega) false)
                have HB2 := hide (HBr.out.setCell (p := ⟨Y, j, none⟩) hne.2.2 (.bool false))
                have HZ2 : Hid (∀ q, q < j + 1 → putB z j false q = P.byteRow s (P.B pt m) r q) := fun q hq => by
                  by_cases hqj : q = j
                  · subst hqj; rw [putB_same, HST.out, hrj]; rfl
                  · rw [putB_other _ _ _ _ hqj]; exact HZ.out q (by omega)
                clear hrj
                go_wp2
                go_roundw
                case rel => exact ⟨j + 1, _, by go_num, by omega, by omega, HX2, HY2, HZ2, HB2⟩
                case measure => simp [intOf]; omega
              | true =>
                rw [hrj] at cx
                have HV : Hid (((s[j - 1].toNat : Int) == (pt[m].toNat : Int)) = (P.B s (j - 1) == P.B pt m)) := by
                  show _ = _
                  rw [HBs.out, HBm.out]; exact beq_nat _ _
                have HX2 := hide (HXr.out.far hne.1 j (.bool ((s[j - 1].toNat : Int) == (pt[m].toNat : Int))))
                have HY2 := hide (HYr.out.setB j (by omega) ((s[j - 1].toNat : Int) == (pt[m].toNat : Int)))
                have HB2 := hide (HBr.out.setCell (p := ⟨Y, j, none⟩) hne.2.2 (.bool ((s[j - 1].toNat : Int) == (pt[m].toNat : Int))))
                have HZ2 : Hid (∀ q, q < j + 1 → putB z j ((s[j - 1].toNat : Int) == (pt[m].toNat : Int)) q = P.byteRow s (P.B pt m) r q) := fun q hq => by
                  by_cases hqj : q = j
                  · subst hqj; rw [putB_same, HST.out, hrj, HV.out]; rfl
                  · rw [putB_other _ _ _ _ hqj]; exact HZ.out q (by omega)
                clear hrj
                go_wp2
                go_roundw
                case rel => exact ⟨j + 1, _, by go_num, by omega, by omega, HX2, HY2, HZ2, HB2⟩
                case measure => simp [intOf]; omega
            · have HSN : Hid (St w wr s.size Y X (P.bytesRow s pt r0 (m + 1))) := by
                refine ⟨by rcases HTW.out with ⟨a, b⟩ | ⟨a, b⟩ <;> omega, ?_, ⟨_, HXr.out⟩, HBr.out⟩
                rw [HNX.out]
                exact HYr.out.congr fun q hq => by rw [HZ.out q (by omega)]
              go_wp2
              go_roundw
              case rel => exact ⟨Y, X, m + 1, rfl, rfl, by go_num, by omega, HSN⟩
              case measure => simp [intOf]; omega
        · have HSN : Hid (St w wr s.size X Y (P.G s t (k + 1))) := by
            rw [HGN.out, show pt.size = m from by omega]; exact HS
          go_wp2
          go_roundw
          case rel => exact ⟨X, Y, k + 1, rfl, rfl, by go_num, by omega, HSN⟩
          case measure => simp [intOf]; omega
    · have hke : k = n := by omega
      subst hke
      have hcell := (HS.out.row s.size (by omega)).1
      have HB := hide HS.out.below
      go_wp2
      go_ret
      exact ⟨rfl, HB.out⟩
end Go.Proofs.Qxb6602242a
