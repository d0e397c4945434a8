/-
  THE PLAIN MATHEMATICS of seat b6601642a: what 'skipSpaceAndComments' computes, on the list of bytes that is left. No Go here.
-/
import Derived.Lib.IndexMore
import Derived.Lib.IndexLaws
import Derived.Lib.IndexBytes
namespace Go.Proofs.Qxb6601642a.Skip
open Go

def isSp (c : UInt8) : Bool := c == 32 || c == 9 || c == 10 || c == 13 || c == 12 || c == 11
def spAt (l : List UInt8) (k : Nat) : Bool := match l[k]? with | some c => isSp c | none => false
def dashes (l : List UInt8) : Bool := Lib.hasPrefix l [45, 45] && (l.length == 2 || spAt l 2)
def toLine (l : List UInt8) : Nat := if Lib.indexByte l 10 < 0 then l.length else (Lib.indexByte l 10).toNat + 1
def toBlock (l : List UInt8) : Nat := if Lib.index (l.drop 2) [42, 47] < 0 then l.length else (Lib.index (l.drop 2) [42, 47]).toNat + 4

/-- One round at the bytes that are left: none: an executable comment; some 0: here is code, or the end; some k: k bytes are skipped. -/
def step (l : List UInt8) : Option Nat :=
  match l with
  | [] => some 0
  | c :: t =>
    if isSp c then some 1
    else if c == 35 || dashes (c :: t) then some (toLine (c :: t))
    else if Lib.hasPrefix (c :: t) [47, 42, 33] then none
    else if Lib.hasPrefix (c :: t) [47, 42] then some (toBlock (c :: t))
    else some 0

def skipF : Nat → List UInt8 → Option Nat
  | 0, _ => some 0
  | f + 1, l => match step l with
    | none => none
    | some 0 => some 0
    | some (k + 1) => (skipF f (l.drop (k + 1))).map (· + (k + 1))

def skip (l : List UInt8) : Option Nat := skipF l.length l

theorem indexByte_lt : ∀ (l : List UInt8) (c : UInt8), l ≠ [] → Lib.indexByte l c < l.length
  | [], _, h => absurd rfl h
  | b :: l, c, _ => by
    unfold Lib.indexByte
    split
    · simp; try omega
    · split
      · simp; try omega
      · by_cases hl : l = []
        · subst hl; simp [Lib.indexByte] at *
        · have := indexByte_lt l c hl
          simp; omega

theorem toLine_bd (l : List UInt8) (h : l ≠ []) : 1 ≤ toLine l ∧ toLine l ≤ l.length := by
  have h1 := indexByte_lt l 10 h
  have h2 : 1 ≤ l.length := by cases l with | nil => exact absurd rfl h | cons a t => simp
  unfold toLine
  split <;> omega

theorem toBlock_bd (l : List UInt8) (h : l ≠ []) : 1 ≤ toBlock l ∧ toBlock l ≤ l.length := by
  have h2 : 1 ≤ l.length := by cases l with | nil => exact absurd rfl h | cons a t => simp
  unfold toBlock
  split
  · omega
  · have := Lib.index_room (l.drop 2) [42, 47] (by omega)
    simp at this
    omega

theorem step_le (l : List UInt8) (k : Nat) (h : step l = some k) : k ≤ l.length := by
  unfold step at h
  split at h
  · simp at h; omega
  · rename_i c t
    have a := toLine_bd (c :: t) (by simp)
    have b := toBlock_bd (c :: t) (by simp)
    split at h
    · simp at h ⊢; omega
    · split at h
      · simp at h; omega
      · split at h
        · simp at h
        · split at h <;> simp at h <;> omega

theorem skipF_enough : ∀ (n f : Nat) (l : List UInt8), l.length ≤ n → l.length ≤ f → skipF f l = skipF l.length l := by
  intro n
  induction n with
  | zero =>
    intro f l hl _
    have : l = [] := List.length_eq_zero_iff.1 (by omega)
    subst this
    cases f <;> simp [skipF, step]
  | succ n ih =>
    intro f l hl hf
    cases l with
    | nil => cases f <;> simp [skipF, step]
    | cons c t =>
      obtain ⟨f, rfl⟩ : ∃ g, f = g + 1 := ⟨f - 1, by simp at hf; omega⟩
      rw [show (c :: t).length = t.length + 1 from rfl]
      simp only [skipF]
      cases hs : step (c :: t) with
      | none => rfl
      | some k =>
        cases k with
        | zero => rfl
        | succ k =>
          have hk := step_le _ _ hs
          simp at hl hk hf
          simp only
          rw [ih f ((c :: t).drop (k + 1)) (by simp; omega) (by simp; omega), ih t.length ((c :: t).drop (k + 1)) (by simp; omega) (by simp)]

/-- The equation of 'skip', without fuel. -/
theorem skip_eq (l : List UInt8) : skip l = match step l with
    | none => none
    | some 0 => some 0
    | some (k + 1) => (skip (l.drop (k + 1))).map (· + (k + 1)) := by
  unfold skip
  cases l with
  | nil => simp [skipF, step]
  | cons c t =>
    rw [show (c :: t).length = t.length + 1 from rfl]
    simp only [skipF]
    cases hs : step (c :: t) with
    | none => rfl
    | some k =>
      cases k with
      | zero => rfl
      | succ k =>
        have hk := step_le _ _ hs
        simp at hk
        simp only
        rw [skipF_enough t.length t.length ((c :: t).drop (k + 1)) (by simp) (by simp)]

theorem skip_nil : skip [] = some 0 := rfl
theorem skip_none (l : List UInt8) (h : step l = none) : skip l = none := by rw [skip_eq, h]
theorem skip_zero (l : List UInt8) (h : step l = some 0) : skip l = some 0 := by rw [skip_eq, h]
theorem skip_more (l : List UInt8) (k : Nat) (h : step l = some k) (h1 : 1 ≤ k) : skip l = (skip (l.drop k)).map (· + k) := by
  obtain ⟨j, rfl⟩ : ∃ j, k = j + 1 := ⟨k - 1, by omega⟩
  rw [skip_eq, h]
theorem skip_all (l : List UInt8) (h : step l = some l.length) : skip l = some l.length := by
  by_cases h1 : l.length = 0
  · rw [h1] at h; rw [skip_zero l h, h1]
  · rw [skip_more l _ h (by omega)]; simp [skip_nil]

/-- What is skipped lies in the text, and there is nothing to skip behind it. -/
theorem skip_spec : ∀ (n : Nat) (l : List UInt8), l.length ≤ n → ∀ k, skip l = some k → k ≤ l.length ∧ skip (l.drop k) = some 0 := by
  intro n
  induction n with
  | zero =>
    intro l hl k h
    have : l = [] := List.length_eq_zero_iff.1 (by omega)
    subst this
    simp [skip_nil] at h
    subst h
    simp [skip_nil]
  | succ n ih =>
    intro l hl k h
    rw [skip_eq] at h
    cases hs : step l with
    | none => rw [hs] at h; simp at h
    | some j =>
      cases j with
      | zero =>
        rw [hs] at h
        simp at h
        subst h
        exact ⟨Nat.zero_le _, by simpa using skip_zero l hs⟩
      | succ j =>
        have hj := step_le _ _ hs
        rw [hs] at h
        simp only [Option.map_eq_some_iff] at h
        obtain ⟨m, hm, rfl⟩ := h
        obtain ⟨a, b⟩ := ih (l.drop (j + 1)) (by simp; omega) m hm
        simp at a
        refine ⟨by omega, ?_⟩
        rw [List.drop_drop] at b
        rw [← b, Nat.add_comm]

/-- The answer as an int: i and what is skipped; -1 for an executable comment. -/
def ans (i : Int) (o : Option Nat) : Int := match o with | none => -1 | some k => i + k
def skipAt (l : List UInt8) (i : Nat) : Int := ans i (skip (l.drop i))

theorem ans_map (i : Int) (o : Option Nat) (k : Nat) : ans i (o.map (· + k)) = ans (i + k) o := by
  cases o with
  | none => rfl
  | some m => simp [ans]; omega

theorem skipAt_past (l : List UInt8) (i : Nat) (h : l.length ≤ i) : skipAt l i = i := by
  unfold skipAt; rw [List.drop_eq_nil_of_le h, skip_nil]; simp [ans]
theorem skipAt_none (l : List UInt8) (i : Nat) (h : step (l.drop i) = none) : skipAt l i = -1 := by
  unfold skipAt; rw [skip_none _ h]; rfl
theorem skipAt_zero (l : List UInt8) (i : Nat) (h : step (l.drop i) = some 0) : skipAt l i = i := by
  unfold skipAt; rw [skip_zero _ h]; simp [ans]
theorem skipAt_more (l : List UInt8) (i k : Nat) (h : step (l.drop i) = some k) : skipAt l i = skipAt l (i + k) := by
  cases k with
  | zero => rfl
  | succ k =>
    unfold skipAt
    rw [skip_more _ _ h (by omega), ans_map, List.drop_drop]
    rfl
theorem skipAt_bd (l : List UInt8) (i : Nat) : -1 ≤ skipAt l i ∧ (skipAt l i ≤ l.length ∨ skipAt l i = i) ∧ (skipAt l i ≠ -1 → (i : Int) ≤ skipAt l i) := by
  unfold skipAt ans
  split
  · simp; try omega
  · rename_i k hk
    have := (skip_spec _ _ (Nat.le_refl _) k hk).1
    simp at this
    omega
theorem skipAt_again (l : List UInt8) (i : Nat) (h : skipAt l i ≠ -1) : skipAt l (skipAt l i).toNat = skipAt l i := by
  unfold skipAt at h ⊢
  cases hk : skip (l.drop i) with
  | none => rw [hk] at h; exact absurd rfl h
  | some k =>
    have := (skip_spec _ _ (Nat.le_refl _) k hk).2
    simp only [ans]
    rw [show ((i : Int) + (k : Int)).toNat = i + k from by omega, ← List.drop_drop, this]
    simp
theorem skipAt_shift (p l : List UInt8) (i : Nat) : skipAt (p ++ l) (p.length + i) = if skipAt l i = -1 then -1 else skipAt l i + p.length := by
  unfold skipAt
  have e : List.drop (p.length + i) (p ++ l) = List.drop i l := by rw [← List.drop_drop]; simp
  rw [e]
  cases hk : skip (l.drop i) with
  | none => rfl
  | some k =>
    rw [if_neg (by simp [ans]; omega)]
    simp [ans]; omega

/-! ### The automaton: what is left to skip, in each of its four states. -/
theorem toLine_nil : toLine [] = 0 := rfl
theorem toLine_cons (c : UInt8) (t : List UInt8) : toLine (c :: t) = if c == 10 then 1 else toLine t + 1 := by
  have h := Lib.indexByte_ge t 10
  unfold toLine
  rw [Lib.indexByte]
  by_cases hc : (c == 10) = true
  · simp [hc]
  · simp only [hc]
    by_cases h1 : Lib.indexByte t 10 = -1
    · simp [h1]
    · have h2 : (Lib.indexByte t 10 == -1) = false := by simpa using h1
      have h3 : ¬ Lib.indexByte t 10 < 0 := by omega
      simp [h2, h3]
      rw [if_neg (by omega)]
      omega

def blk (l : List UInt8) : Nat := if Lib.index l [42, 47] < 0 then l.length else (Lib.index l [42, 47]).toNat + 2
theorem blk_nil : blk [] = 0 := rfl
theorem blk_cons (c : UInt8) (t : List UInt8) : blk (c :: t) = if Lib.hasPrefix (c :: t) [42, 47] then 2 else blk t + 1 := by
  have h := Lib.index_ge t [42, 47]
  unfold blk Lib.hasPrefix
  rw [Lib.index]
  by_cases hc : List.isPrefixOf [42, 47] (c :: t) = true
  · simp only [hc]; simp
  · simp only [hc]
    by_cases h1 : Lib.index t [42, 47] = -1
    · simp [h1]
    · have h2 : (Lib.index t [42, 47] == -1) = false := by simpa using h1
      have h3 : ¬ Lib.index t [42, 47] < 0 := by omega
      simp [h2, h3]
      rw [if_neg (by omega)]
      omega

def fin1 (l : List UInt8) : Option Nat := (skip (l.drop (toLine l))).map (· + toLine l)
def fin2 (l : List UInt8) : Option Nat := (skip (l.drop (blk l))).map (· + blk l)
def fin3 (l : List UInt8) : Option Nat := match l with
  | [] => some 0
  | c :: t => if c == 47 then (skip t).map (· + 1) else fin2 (c :: t)

theorem fin1_nil : fin1 [] = some 0 := rfl
theorem fin2_nil : fin2 [] = some 0 := rfl
theorem map_map_add (o : Option Nat) (a b : Nat) : (o.map (· + a)).map (· + b) = o.map (· + (a + b)) := by
  cases o <;> simp; omega
theorem fin1_cons (c : UInt8) (t : List UInt8) : fin1 (c :: t) = if c == 10 then (skip t).map (· + 1) else (fin1 t).map (· + 1) := by
  unfold fin1
  rw [toLine_cons]
  split
  · simp
  · rw [map_map_add]; simp
theorem fin2_cons (c : UInt8) (t : List UInt8) : fin2 (c :: t) = if c == 42 then (fin3 t).map (· + 1) else (fin2 t).map (· + 1) := by
  have e : fin2 (c :: t) = if Lib.hasPrefix (c :: t) [42, 47] then (skip (t.drop 1)).map (· + 2) else (fin2 t).map (· + 1) := by
    unfold fin2
    rw [blk_cons]
    split
    · simp
    · rw [map_map_add]; simp
  rw [e]
  cases t with
  | nil => by_cases hc : c = 42 <;> simp [Lib.hasPrefix, List.isPrefixOf, fin2_nil, fin3, hc]
  | cons d u =>
    by_cases hc : c = 42
    · by_cases hd : d = 47
      · subst hc hd; simp only [fin3, beq_self_eq_true, if_true, map_map_add]; simp [Lib.hasPrefix, List.isPrefixOf]
      · have hd' : (47 == d) = false := by rw [beq_eq_false_iff_ne]; exact fun h => hd h.symm
        simp [Lib.hasPrefix, List.isPrefixOf, fin3, hc, hd, hd']
    · have hc' : (42 == c) = false := by rw [beq_eq_false_iff_ne]; exact fun h => hc h.symm
      simp [Lib.hasPrefix, List.isPrefixOf, hc, hc']
theorem fin3_cons (c : UInt8) (t : List UInt8) : fin3 (c :: t) = if c == 47 then (skip t).map (· + 1) else if c == 42 then (fin3 t).map (· + 1) else (fin2 t).map (· + 1) := by
  rw [fin3]
  split
  · rfl
  · rw [fin2_cons]

/-- The code state, case by case: 'l = c :: t'. -/
theorem skip_sp (c : UInt8) (t : List UInt8) (h : isSp c = true) : skip (c :: t) = (skip t).map (· + 1) := by
  rw [skip_more (c :: t) 1 (by simp [step, h]) (Nat.le_refl _)]; rfl
theorem skip_hash (t : List UInt8) : skip (35 :: t) = (fin1 t).map (· + 1) := by
  have e : step (35 :: t) = some (toLine (35 :: t)) := by simp [step, isSp]
  rw [skip_more _ _ e (toLine_bd _ (by simp)).1]
  have := fin1_cons 35 t
  unfold fin1 at this ⊢
  rw [this]
  rfl
theorem skip_dashes (c : UInt8) (t : List UInt8) (h1 : isSp c = false) (h : dashes (c :: t) = true) : skip (c :: t) = (fin1 (t.drop 1)).map (· + 2) := by
  have e : step (c :: t) = some (toLine (c :: t)) := by simp [step, h1, h]
  rw [skip_more _ _ e (toLine_bd _ (by simp)).1]
  have h0 : ∃ u, c = 45 ∧ t = 45 :: u := by
    simp only [dashes, Lib.hasPrefix, Bool.and_eq_true] at h
    obtain ⟨u, hu⟩ := List.isPrefixOf_iff_prefix.1 h.1
    simp at hu
    exact ⟨u, hu.1.symm, hu.2.symm⟩
  obtain ⟨u, rfl, rfl⟩ := h0
  have e1 := fin1_cons 45 (45 :: u)
  have e2 := fin1_cons 45 u
  have e0 : fin1 (45 :: 45 :: u) = (skip ((45 :: 45 :: u).drop (toLine (45 :: 45 :: u)))).map (· + toLine (45 :: 45 :: u)) := rfl
  rw [← e0, e1, e2, if_neg (by decide), if_neg (by decide), map_map_add]
  rfl
theorem skip_block (c : UInt8) (t : List UInt8) (h1 : isSp c = false) (h2 : (c == 35 || dashes (c :: t)) = false) (h3 : Lib.hasPrefix (c :: t) [47, 42, 33] = false) (h : Lib.hasPrefix (c :: t) [47, 42] = true) :
    skip (c :: t) = (fin2 (t.drop 1)).map (· + 2) := by
  have e : step (c :: t) = some (toBlock (c :: t)) := by simp only [step, h1, h2, h3, h]; rfl
  rw [skip_more _ _ e (toBlock_bd _ (by simp)).1]
  have h0 : ∃ u, c = 47 ∧ t = 42 :: u := by
    simp only [Lib.hasPrefix] at h
    obtain ⟨u, hu⟩ := List.isPrefixOf_iff_prefix.1 h
    simp at hu
    exact ⟨u, hu.1.symm, hu.2.symm⟩
  obtain ⟨u, rfl, rfl⟩ := h0
  have eb : toBlock (47 :: 42 :: u) = blk u + 2 := by
    unfold toBlock blk
    simp only [List.drop_succ_cons, List.drop_zero]
    split
    · simp
    · omega
  rw [eb]
  unfold fin2
  rw [map_map_add]
  simp
end Go.Proofs.Qxb6601642a.Skip
