/-
  THE PLAIN MATHEMATICS of seat b6601857a: where a JSON string, a container and a plain value end. No Go here.
-/
import Derived.Lib.IndexMore
import Derived.Lib.IndexLaws
import Derived.Lib.IndexBytes
namespace Go.Proofs.Qxb6601857a.J
open Go

/-- The byte at k; 256 beyond the text. -/
def B (s : ByteArray) (k : Nat) : Nat := if h : k < s.size then s[k].toNat else 256
theorem B_at (s : ByteArray) (k : Nat) (h : k < s.size) : B s k = s[k].toNat := by unfold B; rw [dif_pos h]
theorem B_out (s : ByteArray) (k : Nat) (h : ¬ k < s.size) : B s k = 256 := by unfold B; rw [dif_neg h]
theorem B_in (s : ByteArray) (k : Nat) (h : B s k < 256) : k < s.size := by
  by_cases hk : k < s.size
  · exact hk
  · rw [B_out s k hk] at h; omega

/-! ### Strings: from a place inside one to the place behind its closing quotation mark -/
def strF (s : ByteArray) : Nat → Nat → Option Nat
  | 0, _ => none
  | f + 1, p => if B s p = 34 then some (p + 1) else if B s p = 92 then strF s f (p + 2) else if p < s.size then strF s f (p + 1) else none
def strAt (s : ByteArray) (p : Nat) : Option Nat := strF s (s.size + 1 - p) p

theorem strF_past (s : ByteArray) (f p : Nat) (h : s.size < p) : strF s f p = none := by
  cases f with
  | zero => rfl
  | succ f =>
    have := B_out s p (by omega)
    simp only [strF]
    rw [if_neg (by omega), if_neg (by omega), if_neg (by omega)]
theorem strF_same (s : ByteArray) : ∀ (f g p : Nat), s.size < f + p → s.size < g + p → strF s f p = strF s g p := by
  intro f
  induction f with
  | zero => intro g p h1 _; rw [strF_past s g p (by omega)]; rfl
  | succ f ih =>
    intro g p h1 h2
    cases g with
    | zero => rw [strF_past s _ p (by omega)]; rfl
    | succ g =>
      simp only [strF]
      rw [ih g (p + 2) (by omega) (by omega), ih g (p + 1) (by omega) (by omega)]
theorem strAt_eq (s : ByteArray) (p : Nat) : strAt s p = if B s p = 34 then some (p + 1) else if B s p = 92 then strAt s (p + 2) else if p < s.size then strAt s (p + 1) else none := by
  unfold strAt
  rw [strF_same s (s.size + 1 - p) (s.size + 2) p (by omega) (by omega), strF_same s (s.size + 1 - (p + 2)) (s.size + 1) (p + 2) (by omega) (by omega), strF_same s (s.size + 1 - (p + 1)) (s.size + 1) (p + 1) (by omega) (by omega)]
  rfl
theorem str_quote (s : ByteArray) (p : Nat) (h : B s p = 34) : strAt s p = some (p + 1) := by rw [strAt_eq, if_pos h]
theorem str_esc (s : ByteArray) (p : Nat) (h : B s p = 92) : strAt s (p + 2) = strAt s p := by rw [strAt_eq s p, if_neg (by omega), if_pos h]
theorem str_char (s : ByteArray) (p : Nat) (h1 : B s p ≠ 34) (h2 : B s p ≠ 92) (h3 : p < s.size) : strAt s (p + 1) = strAt s p := by rw [strAt_eq s p, if_neg h1, if_neg h2, if_pos h3]
theorem str_bd (s : ByteArray) : ∀ (n p e : Nat), s.size + 1 - p ≤ n → strAt s p = some e → p < e ∧ e ≤ s.size ∧ ∃ q, p ≤ q ∧ q < s.size ∧ B s q = 34 := by
  intro n
  induction n with
  | zero =>
    intro p e hn h
    unfold strAt at h
    rw [strF_past s _ p (by omega)] at h
    cases h
  | succ n ih =>
    intro p e hn h
    rw [strAt_eq] at h
    by_cases h1 : B s p = 34
    · rw [if_pos h1] at h
      have := B_in s p (by omega)
      simp at h
      exact ⟨by omega, by omega, p, by omega, this, h1⟩
    · rw [if_neg h1] at h
      by_cases hp : s.size + 1 - p = 0
      · have := B_out s p (by omega)
        rw [if_neg (by omega), if_neg (by omega)] at h
        cases h
      · by_cases h2 : B s p = 92
        · rw [if_pos h2] at h
          obtain ⟨a, b, q, c1, c2, c3⟩ := ih (p + 2) e (by omega) h
          exact ⟨by omega, b, q, by omega, c2, c3⟩
        · rw [if_neg h2] at h
          by_cases h3 : p < s.size
          · rw [if_pos h3] at h
            obtain ⟨a, b, q, c1, c2, c3⟩ := ih (p + 1) e (by omega) h
            exact ⟨by omega, b, q, by omega, c2, c3⟩
          · rw [if_neg h3] at h; cases h
theorem str_lt {s : ByteArray} {p e : Nat} (h : strAt s p = some e) : p < e ∧ e ≤ s.size := ⟨(str_bd s _ p e (Nat.le_refl _) h).1, (str_bd s _ p e (Nat.le_refl _) h).2.1⟩
theorem str_range (s : ByteArray) : ∀ (n p : Nat), p + n ≤ s.size → (∀ k, p ≤ k → k < p + n → B s k ≠ 34 ∧ B s k ≠ 92) → strAt s (p + n) = strAt s p := by
  intro n
  induction n with
  | zero => intro p _ _; rfl
  | succ n ih =>
    intro p hp h
    have h0 := h p (Nat.le_refl _) (by omega)
    rw [← str_char s p h0.1 h0.2 (by omega), ← ih (p + 1) (by omega) (fun k a b => h k (by omega) (by omega))]
    congr 1
    omega

/-! ### The scan over a container, by depth -/
def scanF (s : ByteArray) : Nat → Nat → Nat → Option Nat
  | 0, _, _ => none
  | f + 1, p, d =>
    if p < s.size then
      if B s p = 34 then (match strAt s (p + 1) with | some e => scanF s f e d | none => none)
      else if B s p = 123 ∨ B s p = 91 then scanF s f (p + 1) (d + 1)
      else if B s p = 125 ∨ B s p = 93 then (if d = 1 then some (p + 1) else scanF s f (p + 1) (d - 1))
      else scanF s f (p + 1) d
    else none
def scanAt (s : ByteArray) (p d : Nat) : Option Nat := scanF s (s.size + 1 - p) p d
theorem scanF_past (s : ByteArray) (f p d : Nat) (h : s.size < p) : scanF s f p d = none := by
  cases f with
  | zero => rfl
  | succ f => simp only [scanF]; rw [if_neg (by omega)]
theorem scanF_same (s : ByteArray) : ∀ (f g p d : Nat), s.size < f + p → s.size < g + p → scanF s f p d = scanF s g p d := by
  intro f
  induction f with
  | zero => intro g p d h1 _; rw [scanF_past s g p d (by omega)]; rfl
  | succ f ih =>
    intro g p d h1 h2
    cases g with
    | zero => rw [scanF_past s _ p d (by omega)]; rfl
    | succ g =>
      simp only [scanF]
      have hs : (match strAt s (p + 1) with | some e => scanF s f e d | none => none) = (match strAt s (p + 1) with | some e => scanF s g e d | none => none) := by
        cases he : strAt s (p + 1) with
        | none => rfl
        | some e =>
          have := (str_lt he).1
          exact ih g e d (by omega) (by omega)
      rw [hs, ih g (p + 1) (d + 1) (by omega) (by omega), ih g (p + 1) (d - 1) (by omega) (by omega), ih g (p + 1) d (by omega) (by omega)]
theorem scanAt_eq (s : ByteArray) (p d : Nat) (hp : p < s.size) : scanAt s p d =
      if B s p = 34 then (match strAt s (p + 1) with | some e => scanAt s e d | none => none)
      else if B s p = 123 ∨ B s p = 91 then scanAt s (p + 1) (d + 1)
      else if B s p = 125 ∨ B s p = 93 then (if d = 1 then some (p + 1) else scanAt s (p + 1) (d - 1))
      else scanAt s (p + 1) d := by
  have e1 : scanAt s p d = scanF s (s.size + 2) p d := scanF_same s _ _ p d (by omega) (by omega)
  have e2 : ∀ q c, p < q → scanAt s q c = scanF s (s.size + 1) q c := fun q c h => scanF_same s _ _ q c (by omega) (by omega)
  rw [e1, e2 (p + 1) (d + 1) (by omega), e2 (p + 1) (d - 1) (by omega), e2 (p + 1) d (by omega)]
  have hs : (match strAt s (p + 1) with | some e => scanAt s e d | none => none) = (match strAt s (p + 1) with | some e => scanF s (s.size + 1) e d | none => none) := by
    cases he : strAt s (p + 1) with
    | none => rfl
    | some e => exact e2 e d (by have := (str_lt he).1; omega)
  rw [hs]
  show scanF s (s.size + 1 + 1) p d = _
  simp only [scanF]
  rw [if_pos hp]

theorem scan_str (s : ByteArray) (p e d : Nat) (h : B s p = 34) (he : strAt s (p + 1) = some e) : scanAt s p d = scanAt s e d := by
  rw [scanAt_eq s p d (B_in s p (by omega)), if_pos h, he]
theorem scan_open (s : ByteArray) (p d : Nat) (h : B s p = 123 ∨ B s p = 91) : scanAt s p d = scanAt s (p + 1) (d + 1) := by
  rw [scanAt_eq s p d (B_in s p (by omega)), if_neg (by omega), if_pos h]
theorem scan_close (s : ByteArray) (p d : Nat) (h : B s p = 125 ∨ B s p = 93) (hd : d ≠ 1) : scanAt s p d = scanAt s (p + 1) (d - 1) := by
  rw [scanAt_eq s p d (B_in s p (by omega)), if_neg (by omega), if_neg (by omega), if_pos h, if_neg hd]
theorem scan_last (s : ByteArray) (p : Nat) (h : B s p = 125 ∨ B s p = 93) : scanAt s p 1 = some (p + 1) := by
  rw [scanAt_eq s p 1 (B_in s p (by omega)), if_neg (by omega), if_neg (by omega), if_pos h, if_pos rfl]
theorem scan_char (s : ByteArray) (p d : Nat) (hp : p < s.size) (h1 : B s p ≠ 34) (h2 : B s p ≠ 123) (h3 : B s p ≠ 91) (h4 : B s p ≠ 125) (h5 : B s p ≠ 93) : scanAt s p d = scanAt s (p + 1) d := by
  rw [scanAt_eq s p d hp, if_neg h1, if_neg (by omega), if_neg (by omega)]

/-! ### Values -/
def ws (c : Nat) : Prop := c = 32 ∨ c = 9 ∨ c = 10 ∨ c = 13
def delim (c : Nat) : Prop := ws c ∨ c = 44 ∨ c = 125 ∨ c = 93
def ord (c : Nat) : Prop := c < 256 ∧ ¬ delim c ∧ c ≠ 34 ∧ c ≠ 123 ∧ c ≠ 91
/-- The scan goes from a to p at its depth. -/
def Into (s : ByteArray) (a p : Nat) : Prop := ∀ d, 1 ≤ d → scanAt s a d = scanAt s p d
theorem Into.rfl (s : ByteArray) (a : Nat) : Into s a a := fun _ _ => Eq.refl _
theorem Into.trans {s : ByteArray} {a b c : Nat} (h : Into s a b) (k : Into s b c) : Into s a c := fun d hd => (h d hd).trans (k d hd)
theorem into_char (s : ByteArray) (p : Nat) (hp : p < s.size) (h1 : B s p ≠ 34) (h2 : B s p ≠ 123) (h3 : B s p ≠ 91) (h4 : B s p ≠ 125) (h5 : B s p ≠ 93) : Into s p (p + 1) := fun d _ => scan_char s p d hp h1 h2 h3 h4 h5
theorem into_str (s : ByteArray) (p e : Nat) (h : B s p = 34) (he : strAt s (p + 1) = some e) : Into s p e := fun d _ => scan_str s p e d h he
theorem into_range (s : ByteArray) : ∀ (n p : Nat), p + n ≤ s.size → (∀ k, p ≤ k → k < p + n → B s k ≠ 34 ∧ B s k ≠ 123 ∧ B s k ≠ 91 ∧ B s k ≠ 125 ∧ B s k ≠ 93) → Into s p (p + n) := by
  intro n
  induction n with
  | zero => intro p _ _; exact Into.rfl s p
  | succ n ih =>
    intro p hp h
    obtain ⟨a, b, c, d, e⟩ := h p (Nat.le_refl _) (by omega)
    have h1 := into_char s p (by omega) a b c d e
    have h2 := ih (p + 1) (by omega) (fun k x y => h k (by omega) (by omega))
    rw [show p + (n + 1) = p + 1 + n from by omega]
    exact h1.trans h2
theorem into_to (s : ByteArray) (p q : Nat) (hpq : p ≤ q) (hq : q ≤ s.size) (h : ∀ k, p ≤ k → k < q → B s k ≠ 34 ∧ B s k ≠ 123 ∧ B s k ≠ 91 ∧ B s k ≠ 125 ∧ B s k ≠ 93) : Into s p q := by
  have := into_range s (q - p) p (by omega) (fun k a b => h k a (by omega))
  rw [show p + (q - p) = q from by omega] at this
  exact this
theorem into_ws (s : ByteArray) (p q : Nat) (hpq : p ≤ q) (hq : q ≤ s.size) (h : ∀ k, p ≤ k → k < q → ws (B s k)) : Into s p q :=
  into_to s p q hpq hq fun k a b => by have := h k a b; unfold ws at this; omega

/-- What valueEnd answers at k: e. -/
def End (s : ByteArray) (k e : Nat) : Prop := k < e ∧ e ≤ s.size ∧ ((B s k = 34 ∧ strAt s (k + 1) = some e) ∨ ((B s k = 123 ∨ B s k = 91) ∧ scanAt s k 0 = some e) ∨ ((∀ j, k ≤ j → j < e → ord (B s j)) ∧ (e = s.size ∨ delim (B s e))))
def Good (s : ByteArray) (k : Nat) (v : Int) : Prop := ∃ e : Nat, v = e ∧ End s k e
/-- A value stands from i to e. -/
def Weak (s : ByteArray) (i e : Nat) : Prop := i < e ∧ e ≤ s.size ∧ Into s i e ∧ ((e = s.size ∨ delim (B s e)) → End s i e)
theorem end_str (s : ByteArray) (i e : Nat) (h : B s i = 34) (he : strAt s (i + 1) = some e) : End s i e := by
  have := str_lt he
  exact ⟨by omega, this.2, Or.inl ⟨h, he⟩⟩
theorem weak_str (s : ByteArray) (i e : Nat) (h : B s i = 34) (he : strAt s (i + 1) = some e) : Weak s i e := by
  have := end_str s i e h he
  exact ⟨this.1, this.2.1, into_str s i e h he, fun _ => this⟩
theorem weak_plain (s : ByteArray) (i e : Nat) (h1 : i < e) (h2 : e ≤ s.size) (h : ∀ j, i ≤ j → j < e → ord (B s j)) : Weak s i e :=
  ⟨h1, h2, into_to s i e (by omega) h2 (fun k a b => by have := h k a b; unfold ord delim at this; omega), fun hd => ⟨h1, h2, Or.inr (Or.inr ⟨h, hd⟩)⟩⟩
/-- A container that opens at i and closes at p. -/
theorem weak_cont (s : ByteArray) (i p : Nat) (h : B s i = 123 ∨ B s i = 91) (hin : Into s (i + 1) p) (hip : i < p) (hc : B s p = 125 ∨ B s p = 93) : Weak s i (p + 1) := by
  have hp := B_in s p (by omega)
  have h0 : scanAt s i 0 = some (p + 1) := by
    rw [scan_open s i 0 h, hin 1 (Nat.le_refl _), scan_last s p hc]
  have he : End s i (p + 1) := ⟨by omega, by omega, Or.inr (Or.inl ⟨h, h0⟩)⟩
  refine ⟨by omega, by omega, fun d hd => ?_, fun _ => he⟩
  rw [scan_open s i d h, hin (d + 1) (by omega), scan_close s p (d + 1) hc (by omega)]
  rfl
end Go.Proofs.Qxb6601857a.J
