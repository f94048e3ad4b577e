/-
  THE PLAIN LAYER of FnSkipItemExact: lists of bytes alone; no program, no model's run.
-/
import Derived.Lib.IndexAny
import Derived.Lib.Strings
namespace Go.Proofs.Qxb6604202a.Plain

/-- zzIsItemDelim. -/
def delim (c : UInt8) : Bool := [44, 59, 32, 9].contains c

/-- zzQuotedUnits. -/
def units (o : Bool) : List UInt8 → Bool
  | [] => true
  | [c] => if c = 34 then false else if c = 92 then o else true
  | c :: d :: l => if c = 34 then false else if c = 92 then units o l else units o (d :: l)

/-- skipItem's scan of a quoted string: the rest of s from place i on; just past the closing quote. -/
def qend : List UInt8 → Nat → Option Nat
  | [], _ => none
  | [c], i => if c = 92 then none else if c = 34 then some (i + 1) else none
  | c :: d :: l, i => if c = 92 then qend l (i + 2) else if c = 34 then some (i + 1) else qend (d :: l) (i + 1)

theorem qend_none : ∀ (l : List UInt8) (i : Nat), qend l i = none → units true l = true
  | [], _, _ => rfl
  | [c], i, h => by
    unfold qend at h
    unfold units
    by_cases h1 : c = 92
    · subst h1; rfl
    · by_cases h2 : c = 34
      · subst h2; simp at h
      · simp [h1, h2]
  | c :: d :: l, i, h => by
    unfold qend at h
    unfold units
    by_cases h1 : c = 92
    · subst h1
      simp at h ⊢
      exact qend_none l _ h
    · by_cases h2 : c = 34
      · subst h2; simp at h
      · simp [h1, h2] at h ⊢
        exact qend_none (d :: l) _ h

theorem units_cons_plain (o : Bool) (c : UInt8) (l : List UInt8) (h1 : c ≠ 34) (h2 : c ≠ 92) : units o (c :: l) = units o l := by
  cases l with
  | nil => simp [units, h1, h2]
  | cons d l => simp [units, h1, h2]

theorem units_cons_esc (o : Bool) (d : UInt8) (l : List UInt8) : units o (92 :: d :: l) = units o l := by
  simp [units]

theorem qend_some : ∀ (l : List UInt8) (i m : Nat), qend l i = some m → ∃ body rest, l = body ++ 34 :: rest ∧ m = i + body.length + 1 ∧ units false body = true
  | [], _, _, h => by simp [qend] at h
  | [c], i, m, h => by
    unfold qend at h
    by_cases h1 : c = 92
    · simp [h1] at h
    · by_cases h2 : c = 34
      · subst h2
        simp at h
        exact ⟨[], [], rfl, by simp; omega, rfl⟩
      · simp [h1, h2] at h
  | c :: d :: l, i, m, h => by
    unfold qend at h
    by_cases h1 : c = 92
    · subst h1
      simp at h
      obtain ⟨b, r, e1, e2, e3⟩ := qend_some l _ _ h
      exact ⟨92 :: d :: b, r, by rw [e1]; rfl, by simp; omega, by rw [units_cons_esc]; exact e3⟩
    · by_cases h2 : c = 34
      · subst h2
        simp at h
        exact ⟨[], d :: l, rfl, by simp; omega, rfl⟩
      · simp [h1, h2] at h
        obtain ⟨b, r, e1, e2, e3⟩ := qend_some (d :: l) _ _ h
        exact ⟨c :: b, r, by rw [e1]; rfl, by simp; omega, by rw [units_cons_plain _ _ _ h2 h1]; exact e3⟩

theorem qend_bound (l : List UInt8) (i m : Nat) (h : qend l i = some m) : i + 1 ≤ m ∧ m ≤ i + l.length := by
  obtain ⟨b, r, e1, e2, _⟩ := qend_some l i m h
  rw [e1]
  simp
  omega

/-- How many bytes skipItem takes of an unquoted s. -/
def take1 (l : List UInt8) : Nat := if Lib.indexAny l [44, 59, 32, 9] < 0 then l.length else (Lib.indexAny l [44, 59, 32, 9]).toNat

theorem take1_spec : ∀ l : List UInt8, take1 l ≤ l.length ∧ (∀ (j : Nat) (c : UInt8), j < take1 l → l[j]? = some c → delim c = false) ∧ (∀ c : UInt8, l[take1 l]? = some c → delim c = true)
  | [] => by refine ⟨by decide, ?_, ?_⟩ <;> simp
  | b :: l => by
    obtain ⟨h1, h2, h3⟩ := take1_spec l
    have hge := Lib.indexAny_ge [44, 59, 32, 9] l
    by_cases hb : delim b = true
    · have e : take1 (b :: l) = 0 := by
        unfold take1
        unfold delim at hb
        rw [Lib.indexAny, if_pos hb]
        rfl
      rw [e]
      refine ⟨by omega, fun j c hj => by omega, fun c hc => ?_⟩
      simp at hc
      rw [← hc]; exact hb
    · have hb' : delim b = false := by simpa using hb
      have e : take1 (b :: l) = take1 l + 1 := by
        unfold take1
        unfold delim at hb
        rw [Lib.indexAny, if_neg hb]
        by_cases hn : Lib.indexAny l [44, 59, 32, 9] = -1
        · simp [hn]
        · have hp : 0 ≤ Lib.indexAny l [44, 59, 32, 9] := by omega
          have hq : (Lib.indexAny l [44, 59, 32, 9] == -1) = false := by simp [hn]
          simp only [hq, Bool.false_eq_true, if_false]
          rw [if_neg (by omega), if_neg (by omega)]
          omega
      rw [e]
      refine ⟨by simp; omega, fun j c hj hc => ?_, fun c hc => h3 c (by simpa using hc)⟩
      cases j with
      | zero => simp at hc; rw [← hc]; exact hb'
      | succ j => exact h2 j c (by omega) (by simpa using hc)

end Go.Proofs.Qxb6604202a.Plain
