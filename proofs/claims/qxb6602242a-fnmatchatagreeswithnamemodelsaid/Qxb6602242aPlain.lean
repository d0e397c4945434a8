/-
  THE PLAIN MATHEMATICS of seat b6602242a: the dynamic programme of one starred element against a name, and the greedy search. No Go here.
-/
import Derived.Lib.IndexMore
import Derived.Lib.IndexLaws
import Derived.Lib.IndexBytes
namespace Go.Proofs.Qxb6602242a.P
open Go

/-- The byte at k; 256 beyond the text. -/
def B (s : ByteArray) (k : Nat) : Nat := if h : k < s.size then s[k].toNat else 256
theorem B_at (s : ByteArray) (k : Nat) (h : k < s.size) : B s k = s[k].toNat := by unfold B; rw [dif_pos h]
theorem B_out (s : ByteArray) (k : Nat) (h : ¬ k < s.size) : B s k = 256 := by unfold B; rw [dif_neg h]
theorem B_lt (s : ByteArray) (k : Nat) (h : k < s.size) : B s k < 256 := by rw [B_at s k h]; exact UInt8.toNat_lt _
theorem B_in (s : ByteArray) (k : Nat) (h : B s k < 256) : k < s.size := by
  by_cases hk : k < s.size
  · exact hk
  · rw [B_out s k hk] at h; omega
theorem B_data (s : ByteArray) (k : Nat) (c : UInt8) : s.data.toList[k]? = some c ↔ B s k = c.toNat := by
  by_cases h : k < s.size
  · rw [Lib.data_getElem? s k h, B_at s k h]
    simp only [Option.some.injEq]
    exact ⟨fun e => by rw [e], fun e => UInt8.toNat_inj.1 e⟩
  · rw [B_out s k h, List.getElem?_eq_none (by rw [← Lib.size_eq]; omega)]
    constructor
    · intro h; cases h
    · intro h; have := c.toNat_lt; omega

/-! ### The rows -/
def start : Nat → Bool := fun k => k == 0
def starRow (r : Nat → Bool) : Nat → Bool
  | 0 => r 0
  | k + 1 => r (k + 1) || starRow r k
def byteRow (s : ByteArray) (c : Nat) (r : Nat → Bool) : Nat → Bool
  | 0 => false
  | k + 1 => r k && (B s k == c)
def bytesRow (s p : ByteArray) (r : Nat → Bool) : Nat → Nat → Bool
  | 0 => r
  | b + 1 => byteRow s (B p b) (bytesRow s p r b)
def pre (i : Nat) (r : Nat → Bool) : Nat → Bool := if i = 0 then r else starRow r
/-- The row after i parts. -/
def G (s : ByteArray) (t : Nat → ByteArray) : Nat → Nat → Bool
  | 0 => start
  | i + 1 => bytesRow s (t i) (pre i (G s t i)) (t i).size

theorem starRow_iff (r : Nat → Bool) (k : Nat) : starRow r k = true ↔ ∃ j, j ≤ k ∧ r j = true := by
  induction k with
  | zero =>
    simp only [starRow]
    constructor
    · intro h; exact ⟨0, Nat.le_refl _, h⟩
    · rintro ⟨j, hj, h⟩; rw [show j = 0 from by omega] at h; exact h
  | succ k ih =>
    simp only [starRow, Bool.or_eq_true, ih]
    constructor
    · rintro (h | ⟨j, hj, h⟩)
      · exact ⟨k + 1, Nat.le_refl _, h⟩
      · exact ⟨j, by omega, h⟩
    · rintro ⟨j, hj, h⟩
      by_cases hjk : j = k + 1
      · subst hjk; exact Or.inl h
      · exact Or.inr ⟨j, by omega, h⟩
/-- The bytes of p stand in s from e on. -/
def occB (s p : ByteArray) (e : Nat) : Prop := ∀ j, j < p.size → B s (e + j) = B p j
theorem bytesRow_iff (s p : ByteArray) (r : Nat → Bool) : ∀ (b k : Nat), bytesRow s p r b k = true ↔ ∃ e, e + b = k ∧ r e = true ∧ ∀ j, j < b → B s (e + j) = B p j := by
  intro b
  induction b with
  | zero =>
    intro k
    simp only [bytesRow]
    constructor
    · intro h; exact ⟨k, rfl, h, fun j hj => by omega⟩
    · rintro ⟨e, he, h, _⟩; rw [show e = k from by omega] at h; exact h
  | succ b ih =>
    intro k
    cases k with
    | zero =>
      simp only [bytesRow, byteRow]
      constructor
      · intro h; cases h
      · rintro ⟨e, he, _⟩; omega
    | succ k =>
      simp only [bytesRow, byteRow, Bool.and_eq_true, ih, beq_iff_eq]
      constructor
      · rintro ⟨⟨e, he, h, hj⟩, hb⟩
        refine ⟨e, by omega, h, fun j hjb => ?_⟩
        by_cases hjj : j = b
        · rw [hjj, show e + b = k from he]; exact hb
        · exact hj j (by omega)
      · rintro ⟨e, he, h, hj⟩
        refine ⟨⟨e, by omega, h, fun j hjb => hj j (by omega)⟩, ?_⟩
        have := hj b (by omega)
        rw [show e + b = k from by omega] at this
        exact this
theorem G_one (s : ByteArray) (t : Nat → ByteArray) (k : Nat) : G s t 1 k = true ↔ k = (t 0).size ∧ occB s (t 0) 0 := by
  show bytesRow s (t 0) (pre 0 start) (t 0).size k = true ↔ _
  rw [bytesRow_iff]
  constructor
  · rintro ⟨e, he, h, ho⟩
    simp [pre, start] at h
    subst h
    exact ⟨by omega, ho⟩
  · rintro ⟨rfl, ho⟩
    exact ⟨0, by omega, by simp [pre, start], ho⟩
theorem G_next (s : ByteArray) (t : Nat → ByteArray) (i k : Nat) (hi : 1 ≤ i) : G s t (i + 1) k = true ↔ ∃ e, e + (t i).size = k ∧ (∃ j, j ≤ e ∧ G s t i j = true) ∧ occB s (t i) e := by
  show bytesRow s (t i) (pre i (G s t i)) (t i).size k = true ↔ _
  rw [bytesRow_iff]
  unfold pre
  rw [if_neg (by omega)]
  constructor
  · rintro ⟨e, he, h, ho⟩; exact ⟨e, he, (starRow_iff _ _).1 h, ho⟩
  · rintro ⟨e, he, h, ho⟩; exact ⟨e, he, (starRow_iff _ _).2 h, ho⟩

/-! ### The greedy search -/
def Least (s : ByteArray) (t : Nat → ByteArray) (i g : Nat) : Prop := G s t i g = true ∧ ∀ j, j < g → G s t i j = false
theorem not_true {b : Bool} (h : ¬ b = true) : b = false := by cases b <;> simp_all
theorem least_one (s : ByteArray) (t : Nat → ByteArray) (h : occB s (t 0) 0) : Least s t 1 (t 0).size :=
  ⟨(G_one s t _).2 ⟨rfl, h⟩, fun j hj => not_true fun e => by have := ((G_one s t j).1 e).1; omega⟩
theorem hit (s : ByteArray) (t : Nat → ByteArray) (i g x : Nat) (hi : 1 ≤ i) (h : Least s t i g) (ho : occB s (t i) (g + x)) (hm : ∀ e, g ≤ e → e < g + x → ¬ occB s (t i) e) : Least s t (i + 1) (g + x + (t i).size) := by
  refine ⟨(G_next s t i _ hi).2 ⟨g + x, rfl, ⟨g, by omega, h.1⟩, ho⟩, fun j hj => not_true fun e => ?_⟩
  obtain ⟨e', he, ⟨j', hj', hg⟩, ho'⟩ := (G_next s t i j hi).1 e
  have hge : g ≤ e' := by
    by_cases hlt : j' < g
    · have := h.2 j' hlt; rw [hg] at this; cases this
    · omega
  exact hm e' hge (by omega) ho'
theorem miss (s : ByteArray) (t : Nat → ByteArray) (i g E : Nat) (hi : 1 ≤ i) (h : Least s t i g) (hm : ∀ e, g ≤ e → e + (t i).size ≤ E → ¬ occB s (t i) e) : ∀ k, k ≤ E → G s t (i + 1) k = false := by
  intro k hk
  refine not_true fun e => ?_
  obtain ⟨e', he, ⟨j', hj', hg⟩, ho'⟩ := (G_next s t i k hi).1 e
  have hge : g ≤ e' := by
    by_cases hlt : j' < g
    · have := h.2 j' hlt; rw [hg] at this; cases this
    · omega
  exact hm e' hge (by omega) ho'
theorem no_low (s : ByteArray) (t : Nat → ByteArray) (i E : Nat) (hi : 1 ≤ i) (h : ∀ k, k ≤ E → G s t i k = false) : ∀ k, k ≤ E → G s t (i + 1) k = false := by
  intro k hk
  refine not_true fun e => ?_
  obtain ⟨e', he, ⟨j', hj', hg⟩, _⟩ := (G_next s t i k hi).1 e
  have := h j' (by omega)
  rw [hg] at this
  cases this
theorem no_low_more (s : ByteArray) (t : Nat → ByteArray) (i E : Nat) (hi : 1 ≤ i) (h : ∀ k, k ≤ E → G s t i k = false) : ∀ (m k : Nat), k ≤ E → G s t (i + m) k = false := by
  intro m
  induction m with
  | zero => exact h
  | succ m ih => exact no_low s t (i + m) E (by omega) ih
theorem no_final (s : ByteArray) (t : Nat → ByteArray) (i E : Nat) (hi : 1 ≤ i) (h : ∀ k, k ≤ E → G s t i k = false) (hE : s.size ≤ E + (t i).size) : G s t (i + 1) s.size = false := by
  refine not_true fun e => ?_
  obtain ⟨e', he, ⟨j', hj', hg⟩, _⟩ := (G_next s t i _ hi).1 e
  have := h j' (by omega)
  rw [hg] at this
  cases this
theorem final (s : ByteArray) (t : Nat → ByteArray) (i g E : Nat) (hi : 1 ≤ i) (h : Least s t i g) (hg : g ≤ E) (hE : E + (t i).size = s.size) (ho : occB s (t i) E) : G s t (i + 1) s.size = true :=
  (G_next s t i _ hi).2 ⟨E, hE, ⟨g, hg, h.1⟩, ho⟩
theorem low (s : ByteArray) (t : Nat → ByteArray) : ∀ (i k : Nat), G s t (i + 1) k = true → (t 0).size ≤ k ∧ occB s (t 0) 0 := by
  intro i
  induction i with
  | zero => intro k h; have := (G_one s t k).1 h; exact ⟨by omega, this.2⟩
  | succ i ih =>
    intro k h
    obtain ⟨e', he, ⟨j', hj', hg⟩, _⟩ := (G_next s t (i + 1) k (by omega)).1 h
    have := ih j' hg
    exact ⟨by omega, this.2⟩
theorem no_prefix (s : ByteArray) (t : Nat → ByteArray) (i k : Nat) (h : ¬ occB s (t 0) 0) : G s t (i + 1) k = false := not_true fun e => h (low s t i k e).2
theorem no_suffix (s : ByteArray) (t : Nat → ByteArray) (i E : Nat) (hi : 1 ≤ i) (hE : E + (t i).size = s.size) (h : ¬ occB s (t i) E) : G s t (i + 1) s.size = false := by
  refine not_true fun e => ?_
  obtain ⟨e', he, _, ho⟩ := (G_next s t i _ hi).1 e
  rw [show e' = E from by omega] at ho
  exact h ho
theorem no_room (s : ByteArray) (t : Nat → ByteArray) (i : Nat) (hi : 1 ≤ i) (h : s.size < (t 0).size + (t i).size) : G s t (i + 1) s.size = false := by
  refine not_true fun e => ?_
  obtain ⟨e', he, ⟨j', hj', hg⟩, _⟩ := (G_next s t i _ hi).1 e
  obtain ⟨i', rfl⟩ : ∃ i', i = i' + 1 := ⟨i - 1, by omega⟩
  have := (low s t i' j' hg).1
  omega

/-! ### The library's searches, byte by byte -/
theorem prefix_iff (l p : List UInt8) : p.isPrefixOf l = true ↔ ∀ j, (h : j < p.length) → l[j]? = some p[j] := by
  rw [List.isPrefixOf_iff_prefix, List.prefix_iff_getElem?]
theorem data_at (p : ByteArray) (j : Nat) (h : j < p.size) : p.data.toList[j]'(by rw [← Lib.size_eq]; exact h) = p[j] := rfl
theorem occAt_iff (s p : ByteArray) (g E x : Nat) (_hE : E ≤ s.size) (hg : g ≤ E) (hx : x ≤ E - g) : Lib.occAt (s.extract g E).data.toList p.data.toList x = true ↔ (g + x + p.size ≤ E ∧ occB s p (g + x)) := by
  unfold Lib.occAt
  rw [prefix_iff]
  have key : ∀ j, ((s.extract g E).data.toList.drop x)[j]? = if x + j < E - g then s.data.toList[g + (x + j)]? else none := by
    intro j
    rw [List.getElem?_drop, Lib.extract_data, List.getElem?_take, List.getElem?_drop]
  constructor
  · intro h
    have h1 : ∀ j, (hj : j < p.size) → x + j < E - g ∧ s.data.toList[g + (x + j)]? = some p[j] := by
      intro j hj
      have := h j (by rw [← Lib.size_eq]; exact hj)
      rw [key j, data_at p j hj] at this
      by_cases hc : x + j < E - g
      · rw [if_pos hc] at this; exact ⟨hc, this⟩
      · rw [if_neg hc] at this; cases this
    refine ⟨?_, fun j hj => ?_⟩
    · by_cases hp : p.size = 0
      · omega
      · have := (h1 (p.size - 1) (by omega)).1; omega
    · rw [B_at p j hj, show g + x + j = g + (x + j) from by omega]
      exact (B_data s _ _).1 (h1 j hj).2
  · rintro ⟨h1, h2⟩ j hj
    have hj' : j < p.size := by rw [Lib.size_eq]; exact hj
    rw [key j, if_pos (by omega), data_at p j hj', show g + (x + j) = g + x + j from by omega]
    refine (B_data s _ _).2 ?_
    rw [h2 j hj', B_at p j hj']
theorem piece_size (s : ByteArray) (g E : Nat) (hE : E ≤ s.size) (hg : g ≤ E) : (s.extract g E).data.toList.length = E - g := by
  rw [← Lib.size_eq]
  simp
  omega
theorem index_hit (s p : ByteArray) (g E x : Nat) (hE : E ≤ s.size) (hg : g ≤ E) (h : Lib.index (s.extract g E).data.toList p.data.toList = x) : g + x + p.size ≤ E ∧ occB s p (g + x) ∧ ∀ e, g ≤ e → e < g + x → ¬ occB s p e := by
  rcases Lib.index_spec (s.extract g E).data.toList p.data.toList with ⟨h1, _⟩ | ⟨i, h1, h2, h3, h4⟩
  · omega
  · have hi : i = x := by omega
    subst hi
    rw [piece_size s g E hE hg] at h2
    obtain ⟨a, b⟩ := (occAt_iff s p g E i hE hg h2).1 h3
    refine ⟨a, b, fun e he1 he2 ho => ?_⟩
    have := h4 (e - g) (by omega)
    rw [(occAt_iff s p g E (e - g) hE hg (by omega)).2 ⟨by omega, by rw [show g + (e - g) = e from by omega]; exact ho⟩] at this
    cases this
theorem index_miss (s p : ByteArray) (g E : Nat) (hE : E ≤ s.size) (hg : g ≤ E) (h : Lib.index (s.extract g E).data.toList p.data.toList < 0) : ∀ e, g ≤ e → e + p.size ≤ E → ¬ occB s p e := by
  intro e he1 he2 ho
  rcases Lib.index_spec (s.extract g E).data.toList p.data.toList with ⟨_, h2⟩ | ⟨i, h1, _⟩
  · have := h2 (e - g) (by rw [piece_size s g E hE hg]; omega)
    rw [(occAt_iff s p g E (e - g) hE hg (by omega)).2 ⟨by omega, by rw [show g + (e - g) = e from by omega]; exact ho⟩] at this
    cases this
  · omega
theorem hasPrefix_iff (s p : ByteArray) (g : Nat) (hg : g ≤ s.size) : Lib.hasPrefix (s.data.toList.drop g) p.data.toList = true ↔ (g + p.size ≤ s.size ∧ occB s p g) := by
  have := occAt_iff s p 0 s.size g (Nat.le_refl _) (Nat.zero_le _) (by omega)
  rw [Nat.zero_add] at this
  rw [← this]
  unfold Lib.hasPrefix Lib.occAt
  rw [Lib.extract_to_end]
  simp
theorem hasSuffix_iff (s p : ByteArray) (hp : p.size ≤ s.size) : Lib.hasSuffix s.data.toList p.data.toList = true ↔ occB s p (s.size - p.size) := by
  rw [← Lib.hasSuffix_of_drop, ← Lib.size_eq, ← Lib.size_eq]
  have h1 : (decide (p.size ≤ s.size)) = true := by simpa using hp
  rw [h1, Bool.true_and]
  have h2 := hasPrefix_iff s p (s.size - p.size) (by omega)
  have h3 : (s.data.toList.drop (s.size - p.size) == p.data.toList) = Lib.hasPrefix (s.data.toList.drop (s.size - p.size)) p.data.toList := by
    rw [← Lib.hasPrefix_of_take]
    have hl : (s.data.toList.drop (s.size - p.size)).length = p.data.toList.length := by rw [List.length_drop, ← Lib.size_eq, ← Lib.size_eq]; omega
    rw [← hl, List.take_length]
    simp
  rw [h3, h2]
  constructor
  · exact fun h => h.2
  · exact fun h => ⟨by omega, h⟩

/-! ### A name of a path -/
def free (p : ByteArray) : Prop := ∀ j, j < p.size → B p j ≠ 47
theorem B_piece (s : ByteArray) (g E k : Nat) (hE : E ≤ s.size) (hg : g ≤ E) (hk : k < E - g) : B (s.extract g E) k = B s (g + k) := by
  have h1 : g + k < s.size := by omega
  rw [B_at s (g + k) h1]
  refine (B_data (s.extract g E) k _).1 ?_
  rw [Lib.extract_data, List.getElem?_take, if_pos hk, List.getElem?_drop, Lib.data_getElem? s (g + k) h1]
theorem size_piece (s : ByteArray) (g E : Nat) (hE : E ≤ s.size) (hg : g ≤ E) : (s.extract g E).size = E - g := by simp; omega
/-- The name from 'at' to e. -/
structure Name (s : ByteArray) (a e : Nat) : Prop where
  le : a ≤ e
  room : e ≤ s.size
  inner : ∀ k, a ≤ k → k < e → B s k ≠ 47
  stop : e = s.size ∨ B s e = 47
theorem one_yes (s p : ByteArray) (a e : Nat) (hn : Name s a e) (hp : free p) (ho : occB s p a) (hr : a + p.size ≤ s.size) (hs : a + p.size = s.size ∨ B s (a + p.size) = 47) : e = a + p.size := by
  have h1 : a + p.size ≤ e := by
    by_cases hlt : a + p.size ≤ e
    · exact hlt
    · rcases hn.stop with h | h
      · omega
      · have h2 := hn.le
        have h3 := ho (e - a) (by omega)
        rw [show a + (e - a) = e from by omega, h] at h3
        exact absurd h3.symm (hp (e - a) (by omega))
  rcases hs with h | h
  · have := hn.room; omega
  · by_cases h2 : a + p.size < e
    · exact absurd h (hn.inner _ (by omega) h2)
    · omega
theorem one_glob (s : ByteArray) (t : Nat → ByteArray) (a e : Nat) (hn : Name s a e) : G (s.extract a e) t 1 (s.extract a e).size = true ↔ (e = a + (t 0).size ∧ occB s (t 0) a) := by
  rw [G_one, size_piece s a e hn.room hn.le]
  have hle := hn.le
  constructor
  · rintro ⟨h1, h2⟩
    refine ⟨by omega, fun j hj => ?_⟩
    rw [← B_piece s a e j hn.room hn.le (by omega), ← h2 j hj, Nat.zero_add]
  · rintro ⟨h1, h2⟩
    refine ⟨by omega, fun j hj => ?_⟩
    rw [Nat.zero_add, B_piece s a e j hn.room hn.le (by omega)]
    exact h2 j hj
end Go.Proofs.Qxb6602242a.P
