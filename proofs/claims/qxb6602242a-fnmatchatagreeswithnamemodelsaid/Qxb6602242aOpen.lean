/-
  WHAT THE ROW's READING GIVES THE WALKS of seat b6602242a: a slice of strings.
-/
import Derived.Test.Qxb6602242aWalks1
import Derived.ProofKit
import Derived.OpenShut
import Derived.SliceStrings
import Derived.Deep.Slices
import Derived.Laws.Cover2
namespace Go.Proofs.Qxb6602242a
open Go.ChangeShapes Go.WideShapes Go.ChangeAt Go.RowKit

theorem addr_of {W : World} {a : Addr} {n : Nat} {f : Nat → Value} (hn : 0 < n) (h : ∀ i, i < n → W.cell? (a.add i) = some (f i)) :
    ∃ b off, a = ⟨b, off, none⟩ ∧ b < W.heap.size ∧ ∀ k, k < n → W.cell? ⟨b, off + k, none⟩ = some (f k) := by
  obtain ⟨b, off, spot⟩ := a
  have hspot : spot = none := by simpa [Addr.add] using World.cell?_spot (h 0 hn)
  subst hspot
  refine ⟨b, off, rfl, ?_, fun k hk => by rw [← Go.WideShapes.add_plain]; exact h k hk⟩
  have h0 := h 0 hn
  by_cases hb : b < W.heap.size
  · exact hb
  · unfold World.cell? at h0
    rw [show (Addr.add ⟨b, off, none⟩ 0) = ⟨b, off, none⟩ from rfl] at h0
    rw [Array.getElem?_eq_none (by simpa using hb)] at h0
    cases h0

section
variable {H : Type} {enc : TypeId × Value → H} {W : World} {base : Nat} {spare : Nat → Bool} {held : Bool}

/-- A slice of strings that came in. -/
theorem sl_strings {t e : TypeId} {a : Option Addr} {n c : Nat} {d : DataW H} {p : List MemPlace} (ht : Try.prog.underlying t = some (.slice e)) (he : Try.prog.underlying e = some .string) (hc : Try.prog.cellsOf e = 1)
    (hd : DataW.Trod enc Try.prog W base spare held t (.slice a n c) d p) : ∃ ts : Nat → ByteArray, Sl W a n (fun k => .string (ts k)) ∧ (a = none → n = 0) ∧ n ≤ 9223372036854775807 := by
  obtain ⟨fuel, hf⟩ := hd
  rcases open_strings ht he hc hf with ⟨hcs, _⟩ | ⟨x, l, cp, ss, hcs, _, hl, hm, hlen, _, hcell, _⟩
  · simp [Value.cells] at hcs
    obtain ⟨rfl, rfl, rfl⟩ := hcs
    exact ⟨fun _ => ByteArray.empty, Or.inl rfl, fun _ => rfl, by omega⟩
  · simp [Value.cells] at hcs
    obtain ⟨rfl, rfl, rfl⟩ := hcs
    unfold maxLen at hm
    refine ⟨fun k => ss.getD k ByteArray.empty, ?_, (fun h => by cases h), by omega⟩
    rcases Nat.eq_zero_or_pos n with h0 | hpos
    · exact Or.inl h0
    · have hle : n ≤ ss.length := by rw [hlen]; split <;> omega
      obtain ⟨b, off, e1, e2, e3⟩ := addr_of (n := n) (f := fun k => .string (ss.getD k ByteArray.empty)) hpos (fun i hi => hcell i (by omega))
      exact Or.inr ⟨b, off, by rw [e1], e2, e3⟩
end
theorem shaped_pos {W : World} {x : Int} (h : W.cell? ⟨0, 0, none⟩ = some (.int .i64 x)) : 0 < W.heap.size := by
  by_cases hb : 0 < W.heap.size
  · exact hb
  · unfold World.cell? at h
    rw [Array.getElem?_eq_none (by simpa using hb)] at h
    cases h
end Go.Proofs.Qxb6602242a
