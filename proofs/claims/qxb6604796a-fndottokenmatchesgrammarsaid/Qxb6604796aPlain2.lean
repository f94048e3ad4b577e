/-
  THE PLAIN LAYER OF THE MODEL: the run of backslashes, the automaton.
-/
import Derived.Test.Qxb6604796aPlain
namespace Go.Proofs.Qxb6604796a.Plain
set_option linter.unusedSimpArgs false

/-- The model's quoted string: r backslashes stand right before. -/
def qrun : List UInt8 → Nat → Nat → Option Nat
  | [], _, _ => none
  | c :: l, r, i => if c = 34 ∧ r % 2 = 0 then some (i + 1) else if c = 92 then qrun l (r + 1) (i + 1) else qrun l 0 (i + 1)

theorem qrun_both : ∀ (l : List UInt8) (r i : Nat), (r % 2 = 0 → qrun l r i = qend l i) ∧ (r % 2 = 1 → qrun l r i = match l with | [] => none | _ :: t => qend t (i + 1))
  | [], r, i => ⟨fun _ => rfl, fun _ => rfl⟩
  | c :: l, r, i => by
    have ih := fun r => qrun_both l r (i + 1)
    constructor
    · intro hr
      by_cases h34 : c = 34
      · rw [qrun, if_pos ⟨h34, hr⟩]
        subst h34
        cases l <;> simp [qend]
      · rw [qrun, if_neg (fun h => h34 h.1)]
        by_cases h92 : c = 92
        · rw [if_pos h92, (ih (r + 1)).2 (by omega)]
          subst h92
          cases l <;> simp [qend]
        · rw [if_neg h92, (ih 0).1 rfl]
          cases l with
          | nil => simp [qend, h34, h92]
          | cons d t => simp [qend, h34, h92]
    · intro hr
      rw [qrun, if_neg (fun h => by omega)]
      by_cases h92 : c = 92
      · rw [if_pos h92, (ih (r + 1)).1 (by omega)]
      · rw [if_neg h92, (ih 0).1 rfl]
theorem qrun_qend (l : List UInt8) (i : Nat) : qrun l 0 i = qend l i := (qrun_both l 0 i).1 rfl

/-- The automaton's step. -/
def nxt (st : Nat) (c : UInt8) : Option Nat :=
  if st = 0 then (if c = 45 then some 1 else if digit c = true then some 2 else if c = 46 then some 4 else none)
  else if st = 1 then (if digit c = true then some 2 else if c = 46 then some 4 else none)
  else if st = 2 then (if digit c = true then some 2 else if c = 46 then some 3 else none)
  else (if digit c = true then some 5 else none)
def acc (st : Nat) : Bool := decide (st = 2) || decide (st = 3) || decide (st = 5)

def aut : List UInt8 → Nat → Nat → Nat → Nat
  | [], _, _, L => L
  | c :: l, st, i, L => match nxt st c with
    | none => L
    | some t => aut l t (i + 1) (if acc t then i + 1 else L)

theorem aut_some {c : UInt8} {l : List UInt8} {st t i L : Nat} (h : nxt st c = some t) : aut (c :: l) st i L = aut l t (i + 1) (if acc t then i + 1 else L) := by rw [aut, h]
theorem aut_none {c : UInt8} {l : List UInt8} {st i L : Nat} (h : nxt st c = none) : aut (c :: l) st i L = L := by rw [aut, h]

theorem aut5 : ∀ (l : List UInt8) (i : Nat), aut l 5 i i = i + run digit l
  | [], i => rfl
  | c :: l, i => by
    cases hd : digit c with
    | true =>
      rw [aut_some (t := 5) (by simp [nxt, hd]), run_hit _ _ _ hd]
      show aut l 5 (i + 1) (i + 1) = _
      rw [aut5 l (i + 1)]
      omega
    | false => rw [aut_none (by simp [nxt, hd]), run_miss _ _ _ hd]; rfl
theorem aut3 (l : List UInt8) (i : Nat) : aut l 3 i i = i + run digit l := by
  cases l with
  | nil => rfl
  | cons c l =>
    cases hd : digit c with
    | true =>
      rw [aut_some (t := 5) (by simp [nxt, hd]), run_hit _ _ _ hd]
      show aut l 5 (i + 1) (i + 1) = _
      rw [aut5 l (i + 1)]
      omega
    | false => rw [aut_none (by simp [nxt, hd]), run_miss _ _ _ hd]; rfl
theorem aut4 (l : List UInt8) (i L : Nat) : aut l 4 i L = if 0 < run digit l then i + run digit l else L := by
  cases l with
  | nil => rfl
  | cons c l =>
    cases hd : digit c with
    | true =>
      rw [aut_some (t := 5) (by simp [nxt, hd]), run_hit _ _ _ hd]
      show aut l 5 (i + 1) (i + 1) = if 0 < run digit l + 1 then _ else L
      rw [if_pos (by omega : 0 < run digit l + 1)]
      rw [aut5 l (i + 1)]
      omega
    | false => rw [aut_none (by simp [nxt, hd]), run_miss _ _ _ hd, if_neg (by omega)]

/-- The numeral behind its first digit. -/
def numTail (l : List UInt8) : Nat := if (l.drop (run digit l)).head? = some 46 then run digit l + 1 + run digit (l.drop (run digit l + 1)) else run digit l
theorem aut2 : ∀ (l : List UInt8) (i : Nat), aut l 2 i i = i + numTail l
  | [], i => by simp [aut, numTail, run]
  | c :: l, i => by
    cases hd : digit c with
    | true =>
      rw [aut_some (t := 2) (by simp [nxt, hd])]
      show aut l 2 (i + 1) (i + 1) = _
      rw [aut2 l (i + 1)]
      have e : numTail (c :: l) = numTail l + 1 := by
        unfold numTail
        rw [run_hit _ _ _ hd]
        simp only [List.drop_succ_cons]
        split <;> omega
      omega
    | false =>
      have hr : run digit (c :: l) = 0 := run_miss _ _ _ hd
      by_cases h46 : c = 46
      · have hd46 : digit 46 = false := by decide
        rw [aut_some (t := 3) (by simp [nxt, h46, hd46])]
        show aut l 3 (i + 1) (i + 1) = _
        rw [aut3 l (i + 1)]
        have e : numTail (c :: l) = 1 + run digit l := by
          unfold numTail
          rw [hr]
          simp [h46]
        omega
      · rw [aut_none (by simp [nxt, hd, h46])]
        have e : numTail (c :: l) = 0 := by
          unfold numTail
          rw [hr]
          simp [h46]
        omega
theorem numAt_digit (c : UInt8) (l : List UInt8) (hd : digit c = true) : numAt (c :: l) = numTail l + 1 := by
  unfold numAt numTail
  rw [run_hit _ _ _ hd]
  simp only [List.drop_succ_cons]
  by_cases h : (l.drop (run digit l)).head? = some 46
  · rw [if_pos ⟨h, .inl (by omega)⟩, if_pos h]; omega
  · rw [if_neg (fun h' => h h'.1), if_neg h]
theorem numAt_point (l : List UInt8) : numAt (46 :: l) = if 0 < run digit l then 1 + run digit l else 0 := by
  have hr : run digit (46 :: l) = 0 := run_miss _ _ _ (by decide)
  unfold numAt
  rw [hr]
  simp
theorem numAt_none (c : UInt8) (l : List UInt8) (hd : digit c = false) (h46 : c ≠ 46) : numAt (c :: l) = 0 := by
  have hr : run digit (c :: l) = 0 := run_miss _ _ _ hd
  unfold numAt
  rw [hr]
  simp [h46]
theorem aut_head (c : UInt8) (l : List UInt8) (st i : Nat) (h : st = 1 ∨ (st = 0 ∧ c ≠ 45)) : aut (c :: l) st i 0 = if 0 < numAt (c :: l) then i + numAt (c :: l) else 0 := by
  cases hd : digit c with
  | true =>
    have hn : nxt st c = some 2 := by rcases h with h | h <;> simp [nxt, h, hd]
    rw [aut_some hn, numAt_digit c l hd]
    show aut l 2 (i + 1) (i + 1) = if 0 < numTail l + 1 then _ else 0
    rw [if_pos (by omega : 0 < numTail l + 1), aut2]
    omega
  | false =>
    by_cases h46 : c = 46
    · have hd46 : digit 46 = false := by decide
      have hn : nxt st c = some 4 := by rcases h with h | h <;> simp [nxt, h, h46, hd46]
      rw [aut_some hn, h46, numAt_point]
      show aut l 4 (i + 1) 0 = _
      rw [aut4]
      by_cases hp : 0 < run digit l
      · rw [if_pos hp, if_pos hp, if_pos (by omega)]; omega
      · rw [if_neg hp, if_neg hp, if_neg (by omega)]
    · have hn : nxt st c = none := by rcases h with h | h <;> simp [nxt, h, hd, h46]
      rw [aut_none hn, numAt_none c l hd h46, if_neg (by omega)]
theorem aut_num (c : UInt8) (r : List UInt8) : (if 0 < aut (c :: r) 0 0 0 then (2, aut (c :: r) 0 0 0) else (0, 1)) = num c r := by
  by_cases h45 : c = 45
  · have e : aut (c :: r) 0 0 0 = if 0 < numAt r then 1 + numAt r else 0 := by
      rw [aut_some (t := 1) (by simp [nxt, h45])]
      show aut r 1 1 0 = _
      cases r with
      | nil => rw [numAt_nil]; rfl
      | cons d l => exact aut_head d l 1 1 (.inl rfl)
    rw [e, num, if_pos h45]
    by_cases hp : 0 < numAt r
    · rw [if_pos hp, if_pos hp, if_pos (by omega)]
    · rw [if_neg hp, if_neg hp, if_neg (by omega)]
  · have e := aut_head c r 0 0 (.inr ⟨rfl, h45⟩)
    rw [e, num, if_neg h45]
    by_cases hp : 0 < numAt (c :: r)
    · rw [if_pos hp, if_pos hp, if_pos (by omega), Nat.zero_add]
    · rw [if_neg hp, if_neg hp, if_neg (by omega)]
end Go.Proofs.Qxb6604796a.Plain
