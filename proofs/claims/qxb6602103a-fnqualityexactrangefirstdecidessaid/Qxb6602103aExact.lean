/-
  THE PROOF OF 'Rows.FnQualityExactRangeFirstDecidesSaid': the kit's frame, for slices of strings and floats, with the wrap that keeps the world's shape.
-/
import Derived.Test.Qxb6602103aRows
import Derived.Test.Qxb6602103aWalks8
import Derived.Test.Qxb6602103aOpen
import Derived.WalkKit
import Derived.ProofKit
import Derived.OpenShut
import Derived.ShutString
import Derived.ChangeOld
import Derived.Below
import Derived.HandedShaped
namespace Go.Proofs.Qxb6602103a.fnQualityExactRangeFirstDecides
open Go.ChangeShapes Go.WideShapes Go.ChangeAt Go.RowKit
open Go.ChangeMaps (open_string shut_string)
set_option linter.unusedVariables false

theorem own : ownKnob Try.prog.godebug = none := by kernel_rfl
theorem laidOut : laidOutB Try.prog = true := by kernel_rfl
theorem cells9 : Try.prog.cellsOf 9 = 1 := by kernel_rfl
theorem cells28 : Try.prog.cellsOf 28 = 1 := by kernel_rfl

theorem law2_any (a1 a2 a3 : Option Addr) (n1 n2 n3 c1 c2 c3 : Nat) (t1 t2 : Nat → ByteArray) (q : Nat → Nat) (m : ByteArray) (q0 : Nat) (w : World) (hn1 : n1 ≤ 9223372036854775807) (hn2 : n2 ≤ 9223372036854775807) (hn3 : n3 ≤ 9223372036854775807) (hm : m.size ≤ 9223372036854775807) (hsh : w.ShapedOpen Try.prog)
    (z1 : a1 = none → n1 = 0) (z2 : a2 = none → n2 = 0) (z3 : a3 = none → n3 = 0)
    (h1 : Sl w a1 n1 (fun k => .string (t1 k))) (h2 : Sl w a2 n2 (fun k => .string (t2 k))) (h3 : Sl w a3 n3 (fun k => .float .f64 (q k))) :
    Calls Try.prog 4 #[.slice a1 n1 c1, .slice a2 n2 c2, .slice a3 n3 c3, .string m, .float .f64 q0] w fun e w' => e = .returned (.bool true) ∧ Below w.heap.size w w' := by
  by_cases hb : n1 ≤ 65536
  · by_cases hne : n2 = n1 ∧ n3 = n1
    · obtain ⟨rfl, rfl⟩ := hne
      obtain ⟨x, hx⟩ := Try.laysM145.s1_3 w hsh
      exact law2_same a1 a2 a3 _ c1 c2 c3 t1 t2 q m q0 x w hb hm hx (shaped_pos hx) z1 z2 z3 h1 h2 h3
    · exact law2_unlike a1 a2 a3 n1 n2 n3 c1 c2 c3 t1 t2 m q0 w hn1 hn2 hn3 hm h1 h2 hne
  · exact law2_big a1 a2 a3 n1 n2 n3 c1 c2 c3 t1 t2 m q0 w hn1 hn2 hn3 hm h1 h2 hb

set_option maxRecDepth 100000 in
theorem lifted (os : Os) (started : os.Started) (H : Type) (enc : TypeId × Value → H) :
    ReturnsInHanded {} Try.checked os 4 .any (Rows.fnQualityExactRangeFirstDecidesSpec.pre6 enc Try.prog Try.f4 Rows.fnQualityExactRangeFirstDecidesRow.domain false) (Rows.fnQualityExactRangeFirstDecidesSpec.post enc Try.prog Try.f4 false true false false) := by
  refine returnsInHanded_of_change_shaped (C := Try.checked) own started (by kernel_rfl) Try.func4
    (ChangeSpec.witness6 (enc := enc) (C := Try.checked) false ⟨#[], #[.slice none 0 0, .slice none 0 0, .slice none 0 0, .string ByteArray.empty, .float .f64 0], []⟩ 8 (by kernel_rfl) (by kernel_rfl) (by kernel_rfl) (by kernel_rfl)) ?_
  intro W base args ds gs before hval0 hW hcnd _ hsh _
  have hval : ∀ (j : Nat) t v, Try.f4.params[j]? = some t → args[j]? = some v → Value.okWide Try.prog W .any base t v := hval0
  have hW' := hW
  obtain ⟨p, q, hA0, hV, rfl, hfz, hnd⟩ := hW
  have hA : DataW.TrodAll enc Try.prog W 0 (fun _ => true) true Try.f4.params.toList args.toList ds p := hA0
  rw [Try.params4] at hA hval
  obtain ⟨v0, vs0, d0, ds0, p0, q0, hargs, rfl, rfl, h0, r0⟩ := trodAll_cons hA
  obtain ⟨v1, vs1, d1, ds1, p1, q1, rfl, rfl, rfl, h1, r1⟩ := trodAll_cons r0
  obtain ⟨v2, vs2, d2, ds2, p2, q2, rfl, rfl, rfl, h2, r2⟩ := trodAll_cons r1
  obtain ⟨v3, vs3, d3, ds3, p3, q3, rfl, rfl, rfl, h3, r3⟩ := trodAll_cons r2
  obtain ⟨v4, vs4, d4, ds4, p4, q4, rfl, rfl, rfl, h4, r4⟩ := trodAll_cons r3
  obtain ⟨rfl, rfl, rfl⟩ := trodAll_nil r4
  obtain rfl : args = #[v0, v1, v2, v3, v4] := by cases args; simp_all
  obtain ⟨rfl, rfl⟩ := trodVars_none hV
  obtain ⟨a0, len0, cap0, rfl⟩ := okWide_slice Try.underlying22 (hval 0 22 v0 rfl rfl)
  have k0 := h0
  have lt0 : ∀ x ∈ p0, x.block < W.heap.size := by obtain ⟨m, hm⟩ := k0; exact DataW.trod_lt m _ _ _ hm
  obtain ⟨t0, s0, z0, n0⟩ := sl_strings Try.underlying22 Try.underlying9 cells9 h0
  obtain ⟨a1, len1, cap1, rfl⟩ := okWide_slice Try.underlying22 (hval 1 22 v1 rfl rfl)
  have k1 := h1
  have lt1 : ∀ x ∈ p1, x.block < W.heap.size := by obtain ⟨m, hm⟩ := k1; exact DataW.trod_lt m _ _ _ hm
  obtain ⟨t1, s1, z1, n1⟩ := sl_strings Try.underlying22 Try.underlying9 cells9 h1
  obtain ⟨a2, len2, cap2, rfl⟩ := okWide_slice Try.underlying23 (hval 2 23 v2 rfl rfl)
  have k2 := h2
  have lt2 : ∀ x ∈ p2, x.block < W.heap.size := by obtain ⟨m, hm⟩ := k2; exact DataW.trod_lt m _ _ _ hm
  obtain ⟨qs, s2, z2, n2⟩ := sl_floats Try.underlying23 Try.underlying28 cells28 h2
  obtain ⟨a3, rfl, rfl, rfl, w3⟩ := open_string Try.underlying9 (hval 3 9 v3 rfl rfl) h3
  obtain ⟨a4, rfl, rfl, rfl, w4⟩ := open_float Try.underlying28 (hval 4 28 v4 rfl rfl) h4
  clear hA0 hval0
  have w3' := w3
  unfold maxLen at w3'
  refine (law2_any a0 a1 a2 len0 len1 len2 cap0 cap1 cap2 t0 t1 qs a3 a4 W n0 n1 n2 w3' hsh z0 z1 z2 s0 s1 s2).mono fun e W' ⟨he, bel⟩ => ?_
  subst he
  exact ⟨_, rfl, _, _, _, [], _, [], hW', trodAll_mk1 (shut_bool Try.underlying4 _), (trodAll_cons_mk (Below.trod laidOut (by kernel_rfl) (of_decide_eq_true (by kernel_rfl)) k0 bel lt0) (trodAll_cons_mk (Below.trod laidOut (by kernel_rfl) (of_decide_eq_true (by kernel_rfl)) k1 bel lt1) (trodAll_cons_mk (Below.trod laidOut (by kernel_rfl) (of_decide_eq_true (by kernel_rfl)) k2 bel lt2) (trodAll_cons_mk (shut_string Try.underlying9 w3) (trodAll_cons_mk (shut_float Try.underlying28 w4) trodAll_mk0))))), rfl, bel.frame _, fun h => by cases h⟩

theorem over : Rows.fnQualityExactRangeFirstDecidesRow.holds Try.pinned (OpenSpec.ofChange Rows.fnQualityExactRangeFirstDecidesSpec) :=
  OpenClaim.holds_of_wide 4 Try.f4 rfl rfl rfl rfl rfl rfl rfl ⟨rfl, rfl, rfl, rfl, rfl⟩ rfl rfl rfl rfl rfl (by kernel_rfl) Try.func4 (by kernel_rfl)
    (of_decide_eq_true (by kernel_rfl)) (by unfold Func.isWrapper; first | (rw [if_pos (by decide +kernel)]; kernel_rfl) | (rw [if_neg (by decide +kernel)]; exact ⟨rfl, rfl⟩))
    (fun os started H enc _ => lifted os started H enc)

theorem proved : Rows.FnQualityExactRangeFirstDecidesSaid := over
end Go.Proofs.Qxb6602103a.fnQualityExactRangeFirstDecides
