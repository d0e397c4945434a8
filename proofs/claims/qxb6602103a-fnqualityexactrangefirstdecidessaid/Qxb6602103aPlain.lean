/-
  THE PLAIN MATHEMATICS of seat b6602103a: how specific a media range is, and the quality that a list of ranges gives. No Go here.
-/
import Derived.Lib.IndexMore
import Derived.Lib.IndexLaws
import Derived.Lib.IndexBytes
namespace Go.Proofs.Qxb6602103a.M
open Go

def star : ByteArray := ⟨#[42]⟩
def eqS (a b : ByteArray) : Bool := a.toList == b.toList
def spec (rt rs t st : ByteArray) : Int :=
  if eqS rt t then (if eqS rs st then 2 else if eqS rs star then 1 else if eqS rt star then 0 else -1) else (if eqS rt star then 0 else -1)
theorem spec_bd (rt rs t st : ByteArray) : -1 ≤ spec rt rs t st ∧ spec rt rs t st ≤ 2 := by
  unfold spec
  repeat' split
  all_goals omega
theorem eqS_refl (a : ByteArray) : eqS a a = true := by simp [eqS]
theorem spec_self (t st : ByteArray) : spec t st t st = 2 := by
  unfold spec
  rw [eqS_refl, eqS_refl]
  rfl

/-- The quality after k ranges: specificity s, quality x. -/
def Inv (sp : Nat → Int) (q : Nat → Nat) (k : Nat) (s : Int) (x : Nat) : Prop :=
  (s = -1 ∧ x = 0 ∧ ∀ j, j < k → sp j = -1) ∨ (∃ j, j < k ∧ sp j = s ∧ 0 ≤ s ∧ x = q j ∧ (∀ i, i < k → sp i ≤ s) ∧ ∀ i, i < j → sp i < s)
theorem inv_zero (sp : Nat → Int) (q : Nat → Nat) : Inv sp q 0 (-1) 0 := Or.inl ⟨rfl, rfl, fun j h => by omega⟩
theorem inv_bd {sp : Nat → Int} {q : Nat → Nat} {k : Nat} {s : Int} {x : Nat} (hsp : ∀ j, -1 ≤ sp j ∧ sp j ≤ 2) (h : Inv sp q k s x) : -1 ≤ s ∧ s ≤ 2 := by
  rcases h with ⟨a, _, _⟩ | ⟨j, _, b, _⟩
  · omega
  · have := hsp j; omega
theorem inv_more {sp : Nat → Int} {q : Nat → Nat} {k : Nat} {s : Int} {x : Nat} (hsp : ∀ j, -1 ≤ sp j ∧ sp j ≤ 2) (h : Inv sp q k s x) (hk : s < sp k) : Inv sp q (k + 1) (sp k) (q k) := by
  have hb := inv_bd hsp h
  refine Or.inr ⟨k, by omega, rfl, by omega, rfl, fun i hi => ?_, fun i hi => ?_⟩
  · by_cases hik : i = k
    · subst hik; omega
    · rcases h with ⟨a, _, c⟩ | ⟨j, _, _, _, _, c, _⟩
      · have := c i (by omega); omega
      · have := c i (by omega); omega
  · rcases h with ⟨a, _, c⟩ | ⟨j, _, _, _, _, c, _⟩
    · have := c i (by omega); omega
    · have := c i (by omega); omega
theorem inv_same {sp : Nat → Int} {q : Nat → Nat} {k : Nat} {s : Int} {x : Nat} (hsp : ∀ j, -1 ≤ sp j ∧ sp j ≤ 2) (h : Inv sp q k s x) (hk : ¬ s < sp k) : Inv sp q (k + 1) s x := by
  rcases h with ⟨a, b, c⟩ | ⟨j, a, b, b0, c, d, e⟩
  · refine Or.inl ⟨a, b, fun i hi => ?_⟩
    by_cases hik : i = k
    · subst hik; have := hsp i; omega
    · exact c i (by omega)
  · refine Or.inr ⟨j, by omega, b, b0, c, fun i hi => ?_, e⟩
    by_cases hik : i = k
    · subst hik; omega
    · exact d i (by omega)
theorem inv_unique {sp : Nat → Int} {q : Nat → Nat} {n : Nat} {s s' : Int} {x x' : Nat} (h : Inv sp q n s x) (h' : Inv sp q n s' x') : x = x' := by
  rcases h with ⟨a, b, c⟩ | ⟨j, a, b, b0, c, d, e⟩
  · rcases h' with ⟨a', b', c'⟩ | ⟨j', a', b', b0', c', d', e'⟩
    · omega
    · have := c j' a'; omega
  · rcases h' with ⟨a', b', c'⟩ | ⟨j', a', b', b0', c', d', e'⟩
    · have := c' j a; omega
    · have h1 := d j' a'
      have h2 := d' j a
      have hss : s = s' := by omega
      have hj : j = j' := by
        by_cases h3 : j < j'
        · have := e' j h3; omega
        · by_cases h4 : j' < j
          · have := e j' h4; omega
          · omega
      subst hj
      omega

/-- The greatest specificity of the first k ranges. -/
def Best (sp : Nat → Int) (k : Nat) (s : Int) : Prop := -1 ≤ s ∧ s ≤ 2 ∧ (∀ i, i < k → sp i ≤ s) ∧ (s = -1 ∨ ∃ j, j < k ∧ sp j = s)
theorem best_zero (sp : Nat → Int) : Best sp 0 (-1) := ⟨by omega, by omega, fun i h => by omega, Or.inl rfl⟩
theorem best_more {sp : Nat → Int} {k : Nat} {s : Int} (hsp : ∀ j, -1 ≤ sp j ∧ sp j ≤ 2) (h : Best sp k s) (hk : s < sp k) : Best sp (k + 1) (sp k) := by
  obtain ⟨a, _, b, _⟩ := h
  have := hsp k
  refine ⟨by omega, by omega, fun i hi => ?_, Or.inr ⟨k, by omega, rfl⟩⟩
  by_cases hik : i = k
  · subst hik; omega
  · have := b i (by omega); omega
theorem best_same {sp : Nat → Int} {k : Nat} {s : Int} (h : Best sp k s) (hk : ¬ s < sp k) : Best sp (k + 1) s := by
  obtain ⟨a, a', b, c⟩ := h
  refine ⟨a, a', fun i hi => ?_, ?_⟩
  · by_cases hik : i = k
    · subst hik; omega
    · exact b i (by omega)
  · rcases c with c | ⟨j, hj, hc⟩
    · exact Or.inl c
    · exact Or.inr ⟨j, by omega, hc⟩
theorem best_none {sp : Nat → Int} (q : Nat → Nat) {n : Nat} {s : Int} (hsp : ∀ j, -1 ≤ sp j ∧ sp j ≤ 2) (h : Best sp n s) (hs : s < 0) : Inv sp q n (-1) 0 := by
  obtain ⟨a, _, b, _⟩ := h
  exact Or.inl ⟨rfl, rfl, fun j hj => by have := b j hj; have := hsp j; omega⟩
theorem best_first {sp : Nat → Int} (q : Nat → Nat) {n k : Nat} {s : Int} (h : Best sp n s) (hs : ¬ s < 0) (hk : k < n) (hne : ∀ i, i < k → sp i ≠ s) (he : sp k = s) : Inv sp q n s (q k) := by
  obtain ⟨a, _, b, _⟩ := h
  exact Or.inr ⟨k, hk, he, by omega, rfl, b, fun i hi => by have := b i (by omega); have := hne i hi; omega⟩
theorem best_hit {sp : Nat → Int} {n : Nat} {s : Int} (h : Best sp n s) (hs : ¬ s < 0) (hne : ∀ i, i < n → sp i ≠ s) : False := by
  obtain ⟨a, _, b, c | ⟨j, hj, hc⟩⟩ := h
  · omega
  · exact hne j hj hc

/-! ### The media type cut at its first slash -/
def slash (s : ByteArray) : Int := Lib.indexByte s.data.toList 47
def before (s : ByteArray) : ByteArray := if 0 ≤ slash s then s.extract 0 (slash s).toNat else s
def after (s : ByteArray) : ByteArray := if 0 ≤ slash s then s.extract ((slash s).toNat + 1) s.size else ⟨#[]⟩
theorem cut_before (s : ByteArray) : (⟨(Lib.cut s.data.toList [47]).1.toArray⟩ : ByteArray) = before s := by
  unfold Lib.cut before slash
  rw [Lib.index_one]
  split
  · rw [Lib.extract_eq]; simp
  · simp
theorem cut_after (s : ByteArray) : (⟨(Lib.cut s.data.toList [47]).2.1.toArray⟩ : ByteArray) = after s := by
  unfold Lib.cut after slash
  rw [Lib.index_one]
  split
  · rw [Lib.extract_eq]
    simp only [List.length_cons, List.length_nil]
    rw [List.take_of_length_le (by rw [List.length_drop, ← Lib.size_eq]; omega)]
  · simp
theorem slash_none (s : ByteArray) (h : ∀ k, (hk : k < s.size) → s[k] ≠ 47) : ¬ 0 ≤ slash s := by
  intro h0
  obtain ⟨i, hi⟩ := Int.eq_ofNat_of_zero_le h0
  obtain ⟨h1, _⟩ := Lib.indexByte_some hi
  have hlt : i < s.size := by
    rw [Lib.size_eq]
    exact (List.getElem?_eq_some_iff.1 h1).1
  rw [Lib.data_getElem? s i hlt] at h1
  simp at h1
  exact h i hlt h1
theorem slash_at (s : ByteArray) (k : Nat) (hk : k < s.size) (h : ∀ j, (hj : j < k) → s[j] ≠ 47) (he : s[k] = 47) : slash s = k := by
  unfold slash
  by_cases hn : Lib.indexByte s.data.toList 47 = -1
  · have := Lib.indexByte_none hn k
    rw [Lib.data_getElem? s k hk, he] at this
    exact absurd rfl this
  · have hge := Lib.indexByte_ge s.data.toList 47
    obtain ⟨i, hi⟩ := Int.eq_ofNat_of_zero_le (by omega : 0 ≤ Lib.indexByte s.data.toList 47)
    obtain ⟨h1, h2⟩ := Lib.indexByte_some hi
    have hlt : i < s.size := by
      rw [Lib.size_eq]
      exact (List.getElem?_eq_some_iff.1 h1).1
    rw [hi]
    by_cases h3 : i < k
    · rw [Lib.data_getElem? s i hlt] at h1
      simp at h1
      exact absurd h1 (h i h3)
    · by_cases h4 : k < i
      · have := h2 k h4
        rw [Lib.data_getElem? s k hk, he] at this
        exact absurd rfl this
      · omega
end Go.Proofs.Qxb6602103a.M
