/-
  THE WALKS of seat b6602103a, part 6: FnQualityMatchesModel.
-/
import Derived.Test.Qxb6602103aWalks5
namespace Go.Proofs.Qxb6602103a
open Go.RowKit

set_option maxRecDepth 100000 in
set_option maxHeartbeats 2000000 in
theorem law1_same (a1 a2 a3 : Option Addr) (n c1 c2 c3 : Nat) (t1 t2 : Nat → ByteArray) (q : Nat → Nat) (m : ByteArray) (x : Int) (w : World) (hn : n ≤ 9223372036854775807) (hm : m.size ≤ 9223372036854775807) (hg : w.cell? ⟨0, 0, none⟩ = some (.int .i64 x)) (hg0 : 0 < w.heap.size)
    (z1 : a1 = none → n = 0) (z2 : a2 = none → n = 0) (z3 : a3 = none → n = 0)
    (h1 : Sl w a1 n (fun k => .string (t1 k))) (h2 : Sl w a2 n (fun k => .string (t2 k))) (h3 : Sl w a3 n (fun k => .float .f64 (q k))) :
    Calls Try.prog 3 #[.slice a1 n c1, .slice a2 n c2, .slice a3 n c3, .string m] w fun e w' => e = .returned (.bool true) ∧ Below w.heap.size w w' := by
  have H1 := hide h1
  have H2 := hide h2
  have H3 := hide h3
  have Z1 := hide z1
  have Z2 := hide z2
  have Z3 := hide z3
  have HG := hide hg
  clear h1 h2 h3 z1 z2 z3 hg
  have HC1 := hide (bytes_any a1 a2 a3 n n n c1 c2 c3 t1 t2 m w hn hn hn hm H1.out H2.out)
  have HC2 := hide (tooBig_any a1 a2 a3 n n n c1 c2 c3 t1 t2 m 0 w hn hn H1.out H2.out)
  go_enter Try.func3, Try.ntmps3
  go_wp2_with fail
  refine HC1.out.mono ?_
  rintro e w' ⟨rfl | ⟨rfl, s1, s2, s3, s4⟩, rfl⟩
  · go_wp2_with fail
    go_ret
    exact ⟨rfl, Below.refl _ _⟩
  · go_wp2_with fail
    refine HC2.out.mono ?_
    rintro e w' ⟨⟨b, rfl⟩, rfl⟩
    cases b with
    | true =>
      go_wp2_with fail
      go_ret
      exact ⟨rfl, Below.refl _ _⟩
    | false =>
      go_wp2_with fail
      refine (cloneS_any a1 n c1 t1 _ s1 Z1.out H1.out).mono ?_
      rintro e w1 ⟨a1', c1', rfl, hs1, hb1⟩
      have H2a := hide (H2.out.below hb1)
      have H3a := hide (H3.out.below hb1)
      have HS1 := hide hs1
      have HB1 := hide hb1
      clear hs1 hb1
      go_wp2_with fail
      refine (cloneS_any a2 n c2 t2 _ s1 Z2.out H2a.out).mono ?_
      rintro e w2 ⟨a2', c2', rfl, hs2, hb2⟩
      have H3b := hide (H3a.out.below hb2)
      have HS1b := hide (HS1.out.below hb2)
      have HS2 := hide hs2
      have HB2 := hide (HB1.out.trans (hb2.mono HB1.out.size))
      clear hs2 hb2
      go_wp2_with fail
      refine (cloneF_any a3 n c3 q _ s1 Z3.out H3b.out).mono ?_
      rintro e w3 ⟨a3', c3', rfl, hs3, hb3⟩
      have HS1c := hide (HS1b.out.below hb3)
      have HS2c := hide (HS2.out.below hb3)
      have HS3 := hide hs3
      have HB3 := hide (HB2.out.trans (hb3.mono HB2.out.size))
      clear hs3 hb3
      go_wp2_with fail
      refine (zzquality_any a1' a2' a3' n c1' c2' c3' t1 t2 q m x _ s1 s4 ((HB3.out.cell (p := ⟨0, 0, none⟩) hg0).trans HG.out) (Nat.lt_of_lt_of_le hg0 HB3.out.size) HS1c.out HS2c.out HS3.out).mono ?_
      rintro e w4 ⟨⟨s, y, rfl, hI⟩, hb4⟩
      have HS1d := hide (HS1c.out.below hb4)
      have HS2d := hide (HS2c.out.below hb4)
      have HS3d := hide (HS3.out.below hb4)
      have HB4 := hide (HB3.out.trans (hb4.mono HB3.out.size))
      have HI := hide hI
      clear hI hb4
      go_wp2_with fail
      refine (model_any a1' a2' a3' n c1' c2' c3' t1 t2 q m _ s1 s4 HS1d.out HS2d.out HS3d.out).mono ?_
      rintro e w5 ⟨⟨s', y', rfl, hI'⟩, hb5⟩
      have hyy := M.inv_unique HI.out hI'
      subst hyy
      have HB5 := hide (HB4.out.trans (hb5.mono HB4.out.size))
      clear hI' hb5
      go_wp2_with fail
      refine (same_any y _).mono ?_
      rintro e w6 ⟨rfl, rfl⟩
      go_wp2_with fail
      go_ret
      exact ⟨rfl, HB5.out⟩

set_option maxRecDepth 100000 in
set_option maxHeartbeats 2000000 in
theorem law1_unlike (a1 a2 a3 : Option Addr) (n1 n2 n3 c1 c2 c3 : Nat) (t1 t2 : Nat → ByteArray) (m : ByteArray) (w : World) (hn1 : n1 ≤ 9223372036854775807) (hn2 : n2 ≤ 9223372036854775807) (hn3 : n3 ≤ 9223372036854775807) (hm : m.size ≤ 9223372036854775807)
    (h1 : Sl w a1 n1 (fun k => .string (t1 k))) (h2 : Sl w a2 n2 (fun k => .string (t2 k))) (hne : ¬ (n2 = n1 ∧ n3 = n1)) :
    Calls Try.prog 3 #[.slice a1 n1 c1, .slice a2 n2 c2, .slice a3 n3 c3, .string m] w fun e w' => e = .returned (.bool true) ∧ Below w.heap.size w w' := by
  have HC1 := hide (bytes_any a1 a2 a3 n1 n2 n3 c1 c2 c3 t1 t2 m w hn1 hn2 hn3 hm h1 h2)
  have HC2 := hide (tooBig_any a1 a2 a3 n1 n2 n3 c1 c2 c3 t1 t2 m 0 w hn1 hn2 h1 h2)
  clear h1 h2
  go_enter Try.func3, Try.ntmps3
  go_wp2_with fail
  refine HC1.out.mono ?_
  rintro e w' ⟨rfl | ⟨rfl, s1, s2, s3, s4⟩, rfl⟩
  · go_wp2_with fail
    go_ret
    exact ⟨rfl, Below.refl _ _⟩
  · go_wp2_with fail
    refine HC2.out.mono ?_
    rintro e w' ⟨⟨b, rfl⟩, rfl⟩
    cases b with
    | true =>
      go_wp2_with fail
      go_ret
      exact ⟨rfl, Below.refl _ _⟩
    | false =>
      by_cases h21 : n2 = n1
      · have e1 : ((n2 : Int) != (n1 : Int)) = false := by simp; omega
        have e2 : ((n3 : Int) != (n1 : Int)) = true := by simp; omega
        have H21 := hide h21
        clear h21 hne
        go_wp2_with fail
        go_ret
        exact ⟨rfl, Below.refl _ _⟩
      · have e1 : ((n2 : Int) != (n1 : Int)) = true := by simp; omega
        clear h21 hne
        go_wp2_with fail
        go_ret
        exact ⟨rfl, Below.refl _ _⟩
end Go.Proofs.Qxb6602103a
