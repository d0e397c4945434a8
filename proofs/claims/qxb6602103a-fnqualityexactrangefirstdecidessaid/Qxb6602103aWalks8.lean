/-
  THE WALKS of seat b6602103a, part 8: FnQualityExactRangeFirstDecides.
-/
import Derived.Test.Qxb6602103aWalks7
namespace Go.Proofs.Qxb6602103a
open Go.RowKit

/-- An exact range put first decides. -/
theorem first_decides (sp : Nat → Int) (q : Nat → Nat) (n : Nat) (s : Int) (x : Nat) (hsp : ∀ j, -1 ≤ sp j ∧ sp j ≤ 2) (h0 : sp 0 = 2) (h : M.Inv sp q (n + 1) s x) : x = q 0 := by
  rcases h with ⟨_, _, c⟩ | ⟨j, a, b, _, c, d, e⟩
  · have := c 0 (by omega); omega
  · have h1 := d 0 (by omega)
    have h2 := hsp j
    by_cases hj : j = 0
    · subst hj; exact c
    · have := e 0 (by omega); omega
theorem spAt_first (t1 t2 : Nat → ByteArray) (m : ByteArray) : spAt (ahead (M.before m) t1) (ahead (M.after m) t2) m 0 = 2 := M.spec_self _ _

set_option maxRecDepth 100000 in
set_option maxHeartbeats 1000000 in
theorem tooBig_yes (a1 a2 a3 : Option Addr) (n1 n2 n3 c1 c2 c3 : Nat) (m : ByteArray) (x : Int) (w : World) (hb : ¬ n1 ≤ 65536) :
    Calls Try.prog 11 #[.slice a1 n1 c1, .slice a2 n2 c2, .slice a3 n3 c3, .string m, .int .i64 x] w fun e w' => e = .returned (.bool true) ∧ w' = w := by
  have hb' : (65536 : Int) < (n1 : Int) := by omega
  go_enter Try.func11, Try.ntmps11
  go_wp2
  go_ret
  exact ⟨rfl, rfl⟩

set_option maxRecDepth 100000 in
set_option maxHeartbeats 2000000 in
theorem law2_same (a1 a2 a3 : Option Addr) (n c1 c2 c3 : Nat) (t1 t2 : Nat → ByteArray) (q : Nat → Nat) (m : ByteArray) (q0 : Nat) (x : Int) (w : World) (hn : n ≤ 65536) (hm : m.size ≤ 9223372036854775807) (hg : w.cell? ⟨0, 0, none⟩ = some (.int .i64 x)) (hg0 : 0 < w.heap.size)
    (z1 : a1 = none → n = 0) (z2 : a2 = none → n = 0) (z3 : a3 = none → n = 0)
    (h1 : Sl w a1 n (fun k => .string (t1 k))) (h2 : Sl w a2 n (fun k => .string (t2 k))) (h3 : Sl w a3 n (fun k => .float .f64 (q k))) :
    Calls Try.prog 4 #[.slice a1 n c1, .slice a2 n c2, .slice a3 n c3, .string m, .float .f64 q0] w fun e w' => e = .returned (.bool true) ∧ Below w.heap.size w w' := by
  have H1 := hide h1
  have H2 := hide h2
  have H3 := hide h3
  have Z1 := hide z1
  have Z2 := hide z2
  have Z3 := hide z3
  have HG := hide hg
  clear h1 h2 h3 z1 z2 z3 hg
  have s1 : n ≤ 1048576 := by omega
  have HC1 := hide (bytes2_any a1 a2 a3 n n n c1 c2 c3 t1 t2 m q0 w (by omega) (by omega) (by omega) hm H1.out H2.out)
  have HC2 := fun y => hide (tooBig_any a1 a2 a3 n n n c1 c2 c3 t1 t2 m y w (by omega) (by omega) H1.out H2.out)
  go_enter Try.func4, Try.ntmps4
  go_wp2_with fail
  refine HC1.out.mono ?_
  rintro e w' ⟨rfl | ⟨rfl, _, _, _, s4⟩, rfl⟩
  · go_wp2_with fail
    go_ret
    exact ⟨rfl, Below.refl _ _⟩
  · go_wp2_with fail
    refine (HC2 _).out.mono ?_
    rintro e w' ⟨⟨b, rfl⟩, rfl⟩
    cases b with
    | true =>
      go_wp2_with fail
      go_ret
      exact ⟨rfl, Below.refl _ _⟩
    | false =>
      go_wp2_with fail
      refine (cloneS_any a1 n c1 t1 _ s1 Z1.out H1.out).mono ?_
      rintro e w1 ⟨a1', c1', rfl, hs1, hb1⟩
      have H2a := hide (H2.out.below hb1)
      have H3a := hide (H3.out.below hb1)
      have HS1 := hide hs1
      have HB1 := hide hb1
      clear hs1 hb1
      go_wp2_with fail
      refine (cloneS_any a2 n c2 t2 _ s1 Z2.out H2a.out).mono ?_
      rintro e w2 ⟨a2', c2', rfl, hs2, hb2⟩
      have H3b := hide (H3a.out.below hb2)
      have HS1b := hide (HS1.out.below hb2)
      have HS2 := hide hs2
      have HB2 := hide (HB1.out.trans (hb2.mono HB1.out.size))
      clear hs2 hb2
      go_wp2_with fail
      refine (cloneF_any a3 n c3 q _ s1 Z3.out H3b.out).mono ?_
      rintro e w3 ⟨a3', c3', rfl, hs3, hb3⟩
      have HS1c := hide (HS1b.out.below hb3)
      have HS2c := hide (HS2.out.below hb3)
      have HS3 := hide hs3
      have HB3 := hide (HB2.out.trans (hb3.mono HB2.out.size))
      clear hs3 hb3
      go_wp2_with fail
      refine (zzCut_any m _ s4).mono ?_
      rintro e w4 ⟨rfl, r, rfl⟩
      have HS1d : Hid (Sl (w3.drewN r) a1' n (fun k => .string (t1 k))) := HS1c
      have HS2d : Hid (Sl (w3.drewN r) a2' n (fun k => .string (t2 k))) := HS2c
      have HS3d : Hid (Sl (w3.drewN r) a3' n (fun k => .float .f64 (q k))) := HS3
      have HB4 : Hid (Below w'.heap.size w' (w3.drewN r)) := below_drewN HB3.out r
      generalize w3.drewN r = w4 at *
      go_wp2_with fail
      refine (prependS_any (M.before m) a1' n c1' t1 _ s1 HS1d.out).mono ?_
      rintro e w5 ⟨a1'', c1'', rfl, hs5, hb5⟩
      have HS2e := hide (HS2d.out.below hb5)
      have HS3e := hide (HS3d.out.below hb5)
      have HP1 := hide hs5
      have HB5 := hide (HB4.out.trans (hb5.mono HB4.out.size))
      clear hs5 hb5
      go_wp2_with fail
      refine (prependS_any (M.after m) a2' n c2' t2 _ s1 HS2e.out).mono ?_
      rintro e w6 ⟨a2'', c2'', rfl, hs6, hb6⟩
      have HS3f := hide (HS3e.out.below hb6)
      have HP1b := hide (HP1.out.below hb6)
      have HP2 := hide hs6
      have HB6 := hide (HB5.out.trans (hb6.mono HB5.out.size))
      clear hs6 hb6
      go_wp2_with fail
      refine (prependF_any q0 a3' n c3' q _ s1 HS3f.out).mono ?_
      rintro e w7 ⟨a3'', c3'', rfl, hs7, hb7⟩
      have HP1c := hide (HP1b.out.below hb7)
      have HP2c := hide (HP2.out.below hb7)
      have HP3 := hide hs7
      have HB7 := hide (HB6.out.trans (hb7.mono HB6.out.size))
      clear hs7 hb7
      go_wp2_with fail
      refine (zzquality_any a1'' a2'' a3'' (n + 1) c1'' c2'' c3'' (ahead (M.before m) t1) (ahead (M.after m) t2) (ahead q0 q) m x _ (by omega) s4 ((HB7.out.cell (p := ⟨0, 0, none⟩) hg0).trans HG.out) (Nat.lt_of_lt_of_le hg0 HB7.out.size) HP1c.out HP2c.out HP3.out).mono ?_
      rintro e w8 ⟨⟨s, y, rfl, hI⟩, hb8⟩
      have hy := first_decides _ _ n s y (spAt_bd _ _ m) (spAt_first t1 t2 m) hI
      have hy' : y = q0 := hy
      subst hy'
      have HB8 := hide (HB7.out.trans (hb8.mono HB7.out.size))
      clear hI hb8 hy
      go_wp2_with fail
      refine (same_any y _).mono ?_
      rintro e w9 ⟨rfl, rfl⟩
      go_wp2_with fail
      go_ret
      exact ⟨rfl, HB8.out⟩

set_option maxRecDepth 100000 in
set_option maxHeartbeats 2000000 in
theorem law2_big (a1 a2 a3 : Option Addr) (n1 n2 n3 c1 c2 c3 : Nat) (t1 t2 : Nat → ByteArray) (m : ByteArray) (q0 : Nat) (w : World) (hn1 : n1 ≤ 9223372036854775807) (hn2 : n2 ≤ 9223372036854775807) (hn3 : n3 ≤ 9223372036854775807) (hm : m.size ≤ 9223372036854775807)
    (h1 : Sl w a1 n1 (fun k => .string (t1 k))) (h2 : Sl w a2 n2 (fun k => .string (t2 k))) (hb : ¬ n1 ≤ 65536) :
    Calls Try.prog 4 #[.slice a1 n1 c1, .slice a2 n2 c2, .slice a3 n3 c3, .string m, .float .f64 q0] w fun e w' => e = .returned (.bool true) ∧ Below w.heap.size w w' := by
  have HC1 := hide (bytes2_any a1 a2 a3 n1 n2 n3 c1 c2 c3 t1 t2 m q0 w hn1 hn2 hn3 hm h1 h2)
  have HC2 := fun y => hide (tooBig_yes a1 a2 a3 n1 n2 n3 c1 c2 c3 m y w hb)
  clear h1 h2
  go_enter Try.func4, Try.ntmps4
  go_wp2_with fail
  refine HC1.out.mono ?_
  rintro e w' ⟨rfl | ⟨rfl, _, _, _, s4⟩, rfl⟩
  · go_wp2_with fail
    go_ret
    exact ⟨rfl, Below.refl _ _⟩
  · go_wp2_with fail
    refine (HC2 _).out.mono ?_
    rintro e w' ⟨rfl, rfl⟩
    go_wp2_with fail
    go_ret
    exact ⟨rfl, Below.refl _ _⟩

set_option maxRecDepth 100000 in
set_option maxHeartbeats 2000000 in
theorem law2_unlike (a1 a2 a3 : Option Addr) (n1 n2 n3 c1 c2 c3 : Nat) (t1 t2 : Nat → ByteArray) (m : ByteArray) (q0 : Nat) (w : World) (hn1 : n1 ≤ 9223372036854775807) (hn2 : n2 ≤ 9223372036854775807) (hn3 : n3 ≤ 9223372036854775807) (hm : m.size ≤ 9223372036854775807)
    (h1 : Sl w a1 n1 (fun k => .string (t1 k))) (h2 : Sl w a2 n2 (fun k => .string (t2 k))) (hne : ¬ (n2 = n1 ∧ n3 = n1)) :
    Calls Try.prog 4 #[.slice a1 n1 c1, .slice a2 n2 c2, .slice a3 n3 c3, .string m, .float .f64 q0] w fun e w' => e = .returned (.bool true) ∧ Below w.heap.size w w' := by
  have HC1 := hide (bytes2_any a1 a2 a3 n1 n2 n3 c1 c2 c3 t1 t2 m q0 w hn1 hn2 hn3 hm h1 h2)
  have HC2 := fun y => hide (tooBig_any a1 a2 a3 n1 n2 n3 c1 c2 c3 t1 t2 m y w hn1 hn2 h1 h2)
  clear h1 h2
  go_enter Try.func4, Try.ntmps4
  go_wp2_with fail
  refine HC1.out.mono ?_
  rintro e w' ⟨rfl | ⟨rfl, s1, s2, s3, s4⟩, rfl⟩
  · go_wp2_with fail
    go_ret
    exact ⟨rfl, Below.refl _ _⟩
  · go_wp2_with fail
    refine (HC2 _).out.mono ?_
    rintro e w' ⟨⟨b, rfl⟩, rfl⟩
    cases b with
    | true =>
      go_wp2_with fail
      go_ret
      exact ⟨rfl, Below.refl _ _⟩
    | false =>
      by_cases h21 : n2 = n1
      · have e1 : ((n2 : Int) != (n1 : Int)) = false := by simp; omega
        have e2 : ((n3 : Int) != (n1 : Int)) = true := by simp; omega
        clear h21 hne
        go_wp2_with fail
        go_ret
        exact ⟨rfl, Below.refl _ _⟩
      · have e1 : ((n2 : Int) != (n1 : Int)) = true := by simp; omega
        clear h21 hne
        go_wp2_with fail
        go_ret
        exact ⟨rfl, Below.refl _ _⟩
end Go.Proofs.Qxb6602103a
