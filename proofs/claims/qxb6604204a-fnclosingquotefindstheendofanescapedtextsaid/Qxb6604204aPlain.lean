/-
  THE PLAIN LAYER: lists of bytes alone; no program, no model's run.
-/
import Derived.Lib.IndexLaws
namespace Go.Proofs.Qxb6604204a.Plain

/-- zzScanQuote, from place j on. -/
def scan : List UInt8 → Nat → Int
  | [], _ => -1
  | [c], j => if c = 34 then j else -1
  | c :: d :: l, j => if c = 34 then j else if c = 92 then scan l (j + 2) else scan (d :: l) (j + 1)

/-- How many backslashes stand right before place i. -/
def esc (l : List UInt8) : Nat → Nat
  | 0 => 0
  | i + 1 => if l[i]? = some 92 then esc l i + 1 else 0

/-- Each quote before place k stands behind an odd run of backslashes. -/
def Odd (l : List UInt8) (k : Nat) : Prop := ∀ j, j < k → l[j]? = some 34 → esc l j % 2 = 1

theorem esc_hit {l : List UInt8} {i : Nat} (h : l[i]? = some 92) : esc l (i + 1) = esc l i + 1 := by simp [esc, h]
theorem esc_miss {l : List UInt8} {i : Nat} (h : l[i]? ≠ some 92) : esc l (i + 1) = 0 := by simp [esc, h]

theorem odd_zero (l : List UInt8) : Odd l 0 := fun _ h => absurd h (Nat.not_lt_zero _)
theorem odd_succ {l : List UInt8} {k : Nat} (h : Odd l k) (hk : l[k]? = some 34 → esc l k % 2 = 1) : Odd l (k + 1) := fun j hj hq => by
  by_cases e : j = k
  · subst e; exact hk hq
  · exact h j (by omega) hq
theorem odd_skip {l : List UInt8} {k m : Nat} (h : Odd l k) (hm : ∀ j, k ≤ j → j < m → l[j]? ≠ some 34) : Odd l m := fun j hj hq => by
  by_cases e : j < k
  · exact h j e hq
  · exact absurd hq (hm j (by omega) hj)

/-- The scan from place j on, where the run of backslashes before j is even and each quote before j is escaped. -/
theorem scan_first (l : List UInt8) : ∀ (n j : Nat), l.length - j ≤ n → Odd l j → esc l j % 2 = 0 →
    (scan (l.drop j) j = -1 ∧ Odd l l.length) ∨ ∃ i : Nat, scan (l.drop j) j = i ∧ l[i]? = some 34 ∧ esc l i % 2 = 0 ∧ Odd l i := by
  intro n
  induction n with
  | zero =>
    intro j hn ho he
    rw [List.drop_of_length_le (by omega)]
    exact .inl ⟨rfl, fun i hi hq => ho i (by omega) hq⟩
  | succ n ih =>
    intro j hn ho he
    by_cases hj : j < l.length
    · have hd : l.drop j = l[j] :: l.drop (j + 1) := List.drop_eq_getElem_cons hj
      have hg : l[j]? = some l[j] := List.getElem?_eq_getElem hj
      by_cases h34 : l[j] = 34
      · have hq : l[j]? = some 34 := by rw [hg, h34]
        refine .inr ⟨j, ?_, hq, he, ho⟩
        rw [hd, h34]
        cases l.drop (j + 1) <;> simp [scan]
      · have hn34 : l[j]? ≠ some 34 := by rw [hg]; intro e; exact h34 (Option.some.inj e)
        have ho1 : Odd l (j + 1) := odd_succ ho (fun e => absurd e hn34)
        by_cases h92 : l[j] = 92
        · have hq : l[j]? = some 92 := by rw [hg, h92]
          have he1 : esc l (j + 1) = esc l j + 1 := esc_hit hq
          have ho2 : Odd l (j + 2) := odd_succ ho1 (fun _ => by omega)
          have he2 : esc l (j + 2) % 2 = 0 := by
            by_cases h2 : l[j + 1]? = some 92
            · rw [esc_hit h2]; omega
            · rw [esc_miss h2]
          have e : scan (l.drop j) j = scan (l.drop (j + 2)) (j + 2) := by
            rw [hd, h92]
            by_cases hj1 : j + 1 < l.length
            · rw [List.drop_eq_getElem_cons hj1]; simp [scan]
            · rw [List.drop_of_length_le (by omega), List.drop_of_length_le (by omega)]; simp [scan]
          rw [e]
          exact ih (j + 2) (by omega) ho2 he2
        · have hn92 : l[j]? ≠ some 92 := by rw [hg]; intro e; exact h92 (Option.some.inj e)
          have he1 : esc l (j + 1) % 2 = 0 := by rw [esc_miss hn92]
          have e : scan (l.drop j) j = scan (l.drop (j + 1)) (j + 1) := by
            rw [hd]
            cases h : l.drop (j + 1) with
            | nil => simp [scan, h34]
            | cons d t => simp [scan, h34, h92]
          rw [e]
          exact ih (j + 1) (by omega) ho1 he1
    · rw [List.drop_of_length_le (by omega)]
      exact .inl ⟨rfl, fun i hi hq => ho i (by omega) hq⟩

/-- A quote behind an even run, each quote before it behind an odd one: the scan finds it. -/
theorem scan_at {l : List UInt8} {i : Nat} (hq : l[i]? = some 34) (he : esc l i % 2 = 0) (ho : Odd l i) : scan l 0 = i := by
  have hi : i < l.length := by
    rcases Nat.lt_or_ge i l.length with h | h
    · exact h
    · rw [List.getElem?_eq_none h] at hq; cases hq
  rcases scan_first l l.length 0 (by omega) (odd_zero l) rfl with ⟨_, h2⟩ | ⟨k, h1, h2, h3, h4⟩
  · have := h2 i hi hq; omega
  · have h1' : scan l 0 = k := by simpa using h1
    rw [h1']
    rcases Nat.lt_trichotomy i k with h | h | h
    · have := h4 i h hq; omega
    · rw [h]
    · have := ho k h h2; omega
theorem scan_none {l : List UInt8} (ho : Odd l l.length) : scan l 0 = -1 := by
  rcases scan_first l l.length 0 (by omega) (odd_zero l) rfl with ⟨h1, _⟩ | ⟨k, h1, h2, h3, h4⟩
  · simpa using h1
  · have hk : k < l.length := by
      rcases Nat.lt_or_ge k l.length with h | h
      · exact h
      · rw [List.getElem?_eq_none h] at h2; cases h2
    have := ho k hk h2
    omega

/-- The law's own escaping. -/
def quoted : List UInt8 → List UInt8
  | [] => []
  | c :: l => if c = 34 ∨ c = 92 then 92 :: c :: quoted l else c :: quoted l

theorem scan_quoted (t : List UInt8) : ∀ (x : List UInt8) (j : Nat), scan (quoted x ++ 34 :: t) j = ((j + (quoted x).length : Nat) : Int)
  | [], j => by
    cases t <;> simp [scan, quoted]
  | c :: l, j => by
    by_cases h : c = 34 ∨ c = 92
    · have e : quoted (c :: l) = 92 :: c :: quoted l := by simp [quoted, h]
      rw [e]
      simp only [List.cons_append, List.length_cons]
      have : scan (92 :: c :: (quoted l ++ 34 :: t)) j = scan (quoted l ++ 34 :: t) (j + 2) := by simp [scan]
      rw [this, scan_quoted t l (j + 2)]
      congr 1
      omega
    · have e : quoted (c :: l) = c :: quoted l := by simp [quoted, h]
      rw [e]
      simp only [List.cons_append, List.length_cons]
      have h1 : c ≠ 34 := fun e => h (.inl e)
      have h2 : c ≠ 92 := fun e => h (.inr e)
      have : scan (c :: (quoted l ++ 34 :: t)) j = scan (quoted l ++ 34 :: t) (j + 1) := by
        cases e : quoted l ++ 34 :: t with
        | nil => simp at e
        | cons d r => simp [scan, h1, h2]
      rw [this, scan_quoted t l (j + 1)]
      congr 1
      omega

end Go.Proofs.Qxb6604204a.Plain
